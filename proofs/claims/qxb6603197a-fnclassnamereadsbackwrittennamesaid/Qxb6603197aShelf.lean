/-
  The shelf's contracts of strings.CutPrefix and strings.Index at this dump, in plain words (two groups of what the kit's lay-plain.mjs wrote for this dump).
-/
import Derived.Shelf.Small.Wraps
import Derived.Shelf.LaysM
import Derived.Shelf.Strings.Shaped
import Derived.Test.Qxb6603197aProg
namespace Go.Proofs
open Go.Shelf
def Try.lays103_ren : Go.Shelf.Ren := ⟨fun | 103 => 19 | 210 => 21 | 206 => 23 | n => n, fun | 9 => 9 | 4 => 4 | 24 => 29 | 3 => 3 | n => n, fun | n => n⟩
theorem Try.lays103 : Go.Proofs.Lays.n103 Try.prog Try.lays103_ren := {
  mixed := by kernel_rfl
  f103 := Try.func19.trans (congrArg some (by kernel_rfl))
  f206 := Try.func23.trans (congrArg some (by kernel_rfl))
  f210 := Try.func21.trans (congrArg some (by kernel_rfl))
  t3 := Try.underlying3
  a3 := Try.isAgg3
  z3 := Try.sizeOf3
  v3 := Try.zeroValue3
  t4 := Try.underlying4
  a4 := Try.isAgg4
  z4 := Try.sizeOf4
  v4 := Try.zeroValue4
  t9 := Try.underlying9
  a9 := Try.isAgg9
  z9 := Try.sizeOf9
  v9 := Try.zeroValue9
  t24 := Try.underlying29
  a24 := Try.isAgg29
  z24 := Try.sizeOf29
  v24 := Try.zeroValue29 }
open Go.RowKit in
/-- strings.CutPrefix: the text without the given head, and whether it was there (the library contract Lib.trimPrefix, Lib.hasPrefix); the world is as it was. -/
theorem Try.strings_CutPrefix (s p : ByteArray) (w : World) :
    Calls Try.prog 19 #[.string s, .string p] w fun e w' => e = .returned (.tuple #[.string ⟨(Lib.trimPrefix s.data.toList p.data.toList).toArray⟩, .bool (Lib.hasPrefix s.data.toList p.data.toList)]) ∧ w' = w := Any.strings_CutPrefix Try.lays103 s p w
def Try.laysM143_ren : Go.Shelf.Ren := ⟨fun | 143 => 20 | 219 => 22 | 217 => 24 | 225 => 25 | 224 => 26 | 267 => 27 | 266 => 28 | 314 => 29 | n => n, fun | 9 => 9 | 3 => 3 | 4 => 4 | 5 => 5 | 46 => 34 | 146 => 36 | 51 => 35 | n => n, fun | 1 => 0 | n => n⟩
theorem Try.laysM143 : Go.Proofs.LaysM.n143 Try.prog Try.laysM143_ren := {
  mixed := by kernel_rfl
  f143 := Try.func20.trans (congrArg some (by kernel_rfl))
  f217 := Try.func24.trans (congrArg some (by kernel_rfl))
  f219 := Try.func22.trans (congrArg some (by kernel_rfl))
  f224 := Try.func26.trans (congrArg some (by kernel_rfl))
  f225 := Try.func25.trans (congrArg some (by kernel_rfl))
  f266 := Try.func28.trans (congrArg some (by kernel_rfl))
  f267 := Try.func27.trans (congrArg some (by kernel_rfl))
  f314 := Try.func29.trans (congrArg some (by kernel_rfl))
  t3 := Try.underlying3
  a3 := Try.isAgg3
  z3 := Try.sizeOf3
  v3 := Try.zeroValue3
  t4 := Try.underlying4
  a4 := Try.isAgg4
  z4 := Try.sizeOf4
  v4 := Try.zeroValue4
  t5 := Try.underlying5
  a5 := Try.isAgg5
  z5 := Try.sizeOf5
  v5 := Try.zeroValue5
  t9 := Try.underlying9
  a9 := Try.isAgg9
  z9 := Try.sizeOf9
  v9 := Try.zeroValue9
  t46 := Try.underlying34
  a46 := Try.isAgg34
  z46 := Try.sizeOf34
  v46 := Try.zeroValue34
  t51 := Try.underlying35
  a51 := Try.isAgg35
  z51 := Try.sizeOf35
  v51 := Try.zeroValue35
  t146 := Try.underlying36
  a146 := Try.isAgg36
  z146 := Try.sizeOf36
  v146 := Try.zeroValue36
  g1 := by kernel_rfl
  i3 := by kernel_rfl
  i4 := by kernel_rfl
  i5 := by kernel_rfl
  i9 := by kernel_rfl
  i46 := by kernel_rfl
  i51 := by kernel_rfl
  i146 := by kernel_rfl
  m1 := by kernel_rfl
  s1_3 := fun w h => Go.Proofs.cell_of_shapedOpen_int (zero := #[.int .i64 0]) (t := 3) h (of_decide_eq_true (by kernel_rfl)) (by kernel_rfl) rfl (by kernel_rfl) (by kernel_rfl) Try.underlying3 }
open Go.RowKit Go.Lib in
theorem Try.strings_Index_shaped (s sub : ByteArray) (w : World) (h : w.ShapedOpen Try.prog) (hs : s.size < 4294967281) :
    Calls Try.prog 20 #[.string s, .string sub] w fun e w' => e = .returned (.int .i64 (Lib.index s.data.toList sub.data.toList)) ∧ w' = w := Any.strings_Index_shaped Try.laysM143 s sub w h hs
end Go.Proofs
