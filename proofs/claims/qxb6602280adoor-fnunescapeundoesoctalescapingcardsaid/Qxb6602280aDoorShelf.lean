/-
  The shelf's contracts of (*strings.Builder).WriteByte and String at this dump, in plain words. The laying of 'WriteByte' (Lays.n167) was typed by a small program of mine, since the kit's command told it as NOT LAID (the loader refuses copyCheck's panic, so no body of the closure names types 9 and 20); every field is a fact of the dump's own or the kernel's comparison.
-/
import Derived.Shelf.Strings.Builder1
import Derived.Test.Qxb6602280aDoorProg
namespace Go.Proofs
open Go.Shelf
def Tryd.lays167_ren : Go.Shelf.Ren := ⟨fun | 167 => 25 | 240 => 32 | 276 => 43 | n => n, fun | 0 => 0 | 3 => 3 | 4 => 4 | 5 => 5 | 9 => 9 | 20 => 20 | 37 => 23 | 70 => 37 | 72 => 39 | 75 => 42 | 80 => 46 | 164 => 61 | 127 => 51 | n => n, fun n => n⟩
theorem Tryd.lays167 : Go.Proofs.Lays.n167 Tryd.prog Tryd.lays167_ren := {
  mixed := by kernel_rfl
  f167 := Tryd.func25.trans (congrArg some (by kernel_rfl))
  f240 := Tryd.func32.trans (congrArg some (by kernel_rfl))
  f276 := Tryd.func43.trans (congrArg some (by kernel_rfl))
  t0 := Tryd.underlying0
  a0 := Tryd.isAgg0
  z0 := Tryd.sizeOf0
  v0 := Tryd.zeroValue0
  t4 := Tryd.underlying4
  a4 := Tryd.isAgg4
  z4 := Tryd.sizeOf4
  v4 := Tryd.zeroValue4
  t5 := Tryd.underlying5
  a5 := Tryd.isAgg5
  z5 := Tryd.sizeOf5
  v5 := Tryd.zeroValue5
  t9 := Tryd.underlying9
  a9 := Tryd.isAgg9
  z9 := Tryd.sizeOf9
  v9 := Tryd.zeroValue9
  t20 := Tryd.underlying20
  a20 := Tryd.isAgg20
  z20 := Tryd.sizeOf20
  v20 := Tryd.zeroValue20
  t37 := Tryd.underlying23
  a37 := Tryd.isAgg23
  z37 := Tryd.sizeOf23
  v37 := Tryd.zeroValue23
  t70 := Tryd.underlying37
  a70 := Tryd.isAgg37
  z70 := Tryd.sizeOf37
  v70 := Tryd.zeroValue37
  t72 := Tryd.underlying39
  a72 := Tryd.isAgg39
  z72 := Tryd.sizeOf39
  v72 := Tryd.zeroValue39
  t75 := Tryd.underlying42
  a75 := Tryd.isAgg42
  z75 := Tryd.sizeOf42
  v75 := Tryd.zeroValue42
  t164 := Tryd.underlying61
  a164 := Tryd.isAgg61
  z164 := Tryd.sizeOf61
  v164 := Tryd.zeroValue61 }
theorem Tryd.Builder_Extra_167 : Builder.Extra Tryd.prog Tryd.lays167_ren := {
  sizeBuilder := by kernel_rfl
  liesBuilder := by kernel_rfl
  t5 := Tryd.underlying5
  a5 := Tryd.isAgg5
  z5 := Tryd.sizeOf5
  v5 := Tryd.zeroValue5
  infoByte := by kernel_rfl
  cellsByte := by kernel_rfl
  sizeByte := by kernel_rfl
  neB5 := by decide }
open Go.RowKit in
theorem Tryd.Builder_WriteByte (B b : Nat) (bs : List Value) (c : Int) (w : World) (h : Lib.IsBuilder 39 5 B b bs w) (hlen : bs.length + 1 ≤ 140737488355328) (hBw : B ≤ w.heap.size) :
    Calls Tryd.prog 25 #[.pointer (some ⟨b, 0, none⟩), .int .u8 c] w fun e w' => e = .returned .nilIface ∧ (Lib.BuilderAt 39 5 B b (.pointer (some ⟨b, 0, none⟩)) (bs ++ [.int .u8 c]) w' ∧ Below B w w') := Any.Builder_WriteByte Tryd.lays167 Tryd.Builder_Extra_167 B b bs c w h hlen hBw
def Tryd.lays169_ren : Go.Shelf.Ren := ⟨fun | 169 => 26 | n => n, fun | 0 => 0 | 3 => 3 | 4 => 4 | 5 => 5 | 9 => 9 | 20 => 20 | 37 => 23 | 70 => 37 | 72 => 39 | 75 => 42 | 80 => 46 | 164 => 61 | 127 => 51 | n => n, fun n => n⟩
theorem Tryd.lays169 : Go.Proofs.Lays.n169 Tryd.prog Tryd.lays169_ren := {
  mixed := by kernel_rfl
  f169 := Tryd.func26.trans (congrArg some (by kernel_rfl))
  t0 := Tryd.underlying0
  a0 := Tryd.isAgg0
  z0 := Tryd.sizeOf0
  v0 := Tryd.zeroValue0
  t3 := Tryd.underlying3
  a3 := Tryd.isAgg3
  z3 := Tryd.sizeOf3
  v3 := Tryd.zeroValue3
  t9 := Tryd.underlying9
  a9 := Tryd.isAgg9
  z9 := Tryd.sizeOf9
  v9 := Tryd.zeroValue9
  t37 := Tryd.underlying23
  a37 := Tryd.isAgg23
  z37 := Tryd.sizeOf23
  v37 := Tryd.zeroValue23
  t70 := Tryd.underlying37
  a70 := Tryd.isAgg37
  z70 := Tryd.sizeOf37
  v70 := Tryd.zeroValue37
  t72 := Tryd.underlying39
  a72 := Tryd.isAgg39
  z72 := Tryd.sizeOf39
  v72 := Tryd.zeroValue39
  t127 := Tryd.underlying51
  a127 := Tryd.isAgg51
  z127 := Tryd.sizeOf51
  v127 := Tryd.zeroValue51 }
theorem Tryd.Builder_Extra_169 : Builder.Extra Tryd.prog Tryd.lays169_ren := {
  sizeBuilder := by kernel_rfl
  liesBuilder := by kernel_rfl
  t5 := Tryd.underlying5
  a5 := Tryd.isAgg5
  z5 := Tryd.sizeOf5
  v5 := Tryd.zeroValue5
  infoByte := by kernel_rfl
  cellsByte := by kernel_rfl
  sizeByte := by kernel_rfl
  neB5 := by decide }
open Go.RowKit in
theorem Tryd.Builder_String_any (B b : Nat) (l : List UInt8) (w : World) (h : Lib.IsBuilder 39 5 B b (Lib.byteCells l) w) (hBw : B ≤ w.heap.size) :
    Calls Tryd.prog 26 #[.pointer (some ⟨b, 0, none⟩)] w fun e w' => e = .returned (.string ⟨l.toArray⟩) ∧ Below B w w' := Any.Builder_String_any Tryd.lays169 Tryd.Builder_Extra_169 B b l w h hBw
end Go.Proofs
