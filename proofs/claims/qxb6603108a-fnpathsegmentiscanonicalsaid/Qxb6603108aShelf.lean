/-
  The shelf's contracts of (*strings.Builder).Grow, WriteByte and String at this dump, in plain words. The layings of Grow and WriteByte were typed by a small program of mine, since the kit's command tells them as NOT LAID (the loader refuses copyCheck's panic, so no body of the closure names types 9 and 20); every field is a fact of the dump's own or the kernel's comparison.
-/
import Derived.Shelf.Strings.Builder1
import Derived.Shelf.Strings.Builder2
import Derived.Test.Qxb6603108aProg
namespace Go.Proofs
open Go.Shelf
def Try.lays165_ren : Go.Shelf.Ren := ⟨fun | 165 => 26 | 240 => 33 | 241 => 34 | 276 => 36 | 277 => 37 | n => n, fun | 0 => 0 | 3 => 3 | 4 => 4 | 5 => 5 | 9 => 9 | 20 => 20 | 37 => 24 | 70 => 51 | 72 => 53 | 75 => 56 | 80 => 58 | 164 => 61 | 127 => 60 | n => n, fun n => n⟩
theorem Try.lays165 : Go.Proofs.Lays.n165 Try.prog Try.lays165_ren := {
  mixed := by kernel_rfl
  f165 := Try.func26.trans (congrArg some (by kernel_rfl))
  f240 := Try.func33.trans (congrArg some (by kernel_rfl))
  f241 := Try.func34.trans (congrArg some (by kernel_rfl))
  f276 := Try.func36.trans (congrArg some (by kernel_rfl))
  f277 := Try.func37.trans (congrArg some (by kernel_rfl))
  t0 := Try.underlying0
  a0 := Try.isAgg0
  z0 := Try.sizeOf0
  v0 := Try.zeroValue0
  t3 := Try.underlying3
  a3 := Try.isAgg3
  z3 := Try.sizeOf3
  v3 := Try.zeroValue3
  t4 := Try.underlying4
  a4 := Try.isAgg4
  z4 := Try.sizeOf4
  v4 := Try.zeroValue4
  t9 := Try.underlying9
  a9 := Try.isAgg9
  z9 := Try.sizeOf9
  v9 := Try.zeroValue9
  t20 := Try.underlying20
  a20 := Try.isAgg20
  z20 := Try.sizeOf20
  v20 := Try.zeroValue20
  t37 := Try.underlying24
  a37 := Try.isAgg24
  z37 := Try.sizeOf24
  v37 := Try.zeroValue24
  t70 := Try.underlying51
  a70 := Try.isAgg51
  z70 := Try.sizeOf51
  v70 := Try.zeroValue51
  t72 := Try.underlying53
  a72 := Try.isAgg53
  z72 := Try.sizeOf53
  v72 := Try.zeroValue53
  t164 := Try.underlying61
  a164 := Try.isAgg61
  z164 := Try.sizeOf61
  v164 := Try.zeroValue61 }
theorem Try.Builder_Extra_165 : Builder.Extra Try.prog Try.lays165_ren := {
  sizeBuilder := by kernel_rfl
  liesBuilder := by kernel_rfl
  t5 := Try.underlying5
  a5 := Try.isAgg5
  z5 := Try.sizeOf5
  v5 := Try.zeroValue5
  infoByte := by kernel_rfl
  cellsByte := by kernel_rfl
  sizeByte := by kernel_rfl
  neB5 := by decide }
open Go.RowKit in
theorem Try.Builder_Grow_fresh (B b n : Nat) (w : World) (hB : B ≤ b) (hbk : w.heap[b]? = some (.cells #[.pointer none, .slice none 0 0] 53 (0, 0))) (hBw : B ≤ w.heap.size) (hn : n ≤ 281474976710656) :
    Calls Try.prog 26 #[.pointer (some ⟨b, 0, none⟩), .int .i64 n] w fun e w' => e = .returned (.tuple #[]) ∧ (Lib.BuilderAt 53 5 B b (.pointer (some ⟨b, 0, none⟩)) [] w' ∧ Below B w w') := Any.Builder_Grow_fresh Try.lays165 Try.Builder_Extra_165 B b n w hB hbk hBw hn
def Try.lays167_ren : Go.Shelf.Ren := ⟨fun | 167 => 28 | 240 => 33 | 276 => 36 | n => n, fun | 0 => 0 | 3 => 3 | 4 => 4 | 5 => 5 | 9 => 9 | 20 => 20 | 37 => 24 | 70 => 51 | 72 => 53 | 75 => 56 | 80 => 58 | 164 => 61 | 127 => 60 | n => n, fun n => n⟩
theorem Try.lays167 : Go.Proofs.Lays.n167 Try.prog Try.lays167_ren := {
  mixed := by kernel_rfl
  f167 := Try.func28.trans (congrArg some (by kernel_rfl))
  f240 := Try.func33.trans (congrArg some (by kernel_rfl))
  f276 := Try.func36.trans (congrArg some (by kernel_rfl))
  t0 := Try.underlying0
  a0 := Try.isAgg0
  z0 := Try.sizeOf0
  v0 := Try.zeroValue0
  t4 := Try.underlying4
  a4 := Try.isAgg4
  z4 := Try.sizeOf4
  v4 := Try.zeroValue4
  t5 := Try.underlying5
  a5 := Try.isAgg5
  z5 := Try.sizeOf5
  v5 := Try.zeroValue5
  t9 := Try.underlying9
  a9 := Try.isAgg9
  z9 := Try.sizeOf9
  v9 := Try.zeroValue9
  t20 := Try.underlying20
  a20 := Try.isAgg20
  z20 := Try.sizeOf20
  v20 := Try.zeroValue20
  t37 := Try.underlying24
  a37 := Try.isAgg24
  z37 := Try.sizeOf24
  v37 := Try.zeroValue24
  t70 := Try.underlying51
  a70 := Try.isAgg51
  z70 := Try.sizeOf51
  v70 := Try.zeroValue51
  t72 := Try.underlying53
  a72 := Try.isAgg53
  z72 := Try.sizeOf53
  v72 := Try.zeroValue53
  t75 := Try.underlying56
  a75 := Try.isAgg56
  z75 := Try.sizeOf56
  v75 := Try.zeroValue56
  t164 := Try.underlying61
  a164 := Try.isAgg61
  z164 := Try.sizeOf61
  v164 := Try.zeroValue61 }
theorem Try.Builder_Extra_167 : Builder.Extra Try.prog Try.lays167_ren := {
  sizeBuilder := by kernel_rfl
  liesBuilder := by kernel_rfl
  t5 := Try.underlying5
  a5 := Try.isAgg5
  z5 := Try.sizeOf5
  v5 := Try.zeroValue5
  infoByte := by kernel_rfl
  cellsByte := by kernel_rfl
  sizeByte := by kernel_rfl
  neB5 := by decide }
open Go.RowKit in
theorem Try.Builder_WriteByte (B b : Nat) (bs : List Value) (c : Int) (w : World) (h : Lib.IsBuilder 53 5 B b bs w) (hlen : bs.length + 1 ≤ 140737488355328) (hBw : B ≤ w.heap.size) :
    Calls Try.prog 28 #[.pointer (some ⟨b, 0, none⟩), .int .u8 c] w fun e w' => e = .returned .nilIface ∧ (Lib.BuilderAt 53 5 B b (.pointer (some ⟨b, 0, none⟩)) (bs ++ [.int .u8 c]) w' ∧ Below B w w') := Any.Builder_WriteByte Try.lays167 Try.Builder_Extra_167 B b bs c w h hlen hBw
def Try.lays169_ren : Go.Shelf.Ren := ⟨fun | 169 => 29 | n => n, fun | 0 => 0 | 3 => 3 | 4 => 4 | 5 => 5 | 9 => 9 | 20 => 20 | 37 => 24 | 70 => 51 | 72 => 53 | 75 => 56 | 80 => 58 | 164 => 61 | 127 => 60 | n => n, fun n => n⟩
theorem Try.lays169 : Go.Proofs.Lays.n169 Try.prog Try.lays169_ren := {
  mixed := by kernel_rfl
  f169 := Try.func29.trans (congrArg some (by kernel_rfl))
  t0 := Try.underlying0
  a0 := Try.isAgg0
  z0 := Try.sizeOf0
  v0 := Try.zeroValue0
  t3 := Try.underlying3
  a3 := Try.isAgg3
  z3 := Try.sizeOf3
  v3 := Try.zeroValue3
  t9 := Try.underlying9
  a9 := Try.isAgg9
  z9 := Try.sizeOf9
  v9 := Try.zeroValue9
  t37 := Try.underlying24
  a37 := Try.isAgg24
  z37 := Try.sizeOf24
  v37 := Try.zeroValue24
  t70 := Try.underlying51
  a70 := Try.isAgg51
  z70 := Try.sizeOf51
  v70 := Try.zeroValue51
  t72 := Try.underlying53
  a72 := Try.isAgg53
  z72 := Try.sizeOf53
  v72 := Try.zeroValue53
  t127 := Try.underlying60
  a127 := Try.isAgg60
  z127 := Try.sizeOf60
  v127 := Try.zeroValue60 }
theorem Try.Builder_Extra_169 : Builder.Extra Try.prog Try.lays169_ren := {
  sizeBuilder := by kernel_rfl
  liesBuilder := by kernel_rfl
  t5 := Try.underlying5
  a5 := Try.isAgg5
  z5 := Try.sizeOf5
  v5 := Try.zeroValue5
  infoByte := by kernel_rfl
  cellsByte := by kernel_rfl
  sizeByte := by kernel_rfl
  neB5 := by decide }
open Go.RowKit in
theorem Try.Builder_String_any (B b : Nat) (l : List UInt8) (w : World) (h : Lib.IsBuilder 53 5 B b (Lib.byteCells l) w) (hBw : B ≤ w.heap.size) :
    Calls Try.prog 29 #[.pointer (some ⟨b, 0, none⟩)] w fun e w' => e = .returned (.string ⟨l.toArray⟩) ∧ Below B w w' := Any.Builder_String_any Try.lays169 Try.Builder_Extra_169 B b l w h hBw
end Go.Proofs
