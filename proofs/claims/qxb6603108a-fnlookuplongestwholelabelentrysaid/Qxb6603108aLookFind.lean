import Derived.Test.Qxb6603108aLookEnds
import Derived.Maps.OwnSet
import Derived.Maps.StringElems
namespace Go.Proofs.Qxb6603108a
open Go.RowKit LookP Go.Maps

def strLen : Value → Nat
  | .string s => s.size
  | _ => 0

/-- what a look-up in block bm gives, in the plain words -/
def Looks (kv : List (ByteArray × ByteArray)) (bm N : Nat) (w : World) : Prop :=
  ∀ s : ByteArray, s.size ≤ N → (Instr.lookup 33 (.map (some bm)) (.string s) true).run Try.prog w = .ok (.tuple #[.string ((LookP.look kv s.data.toList).getD ByteArray.empty), .bool (LookP.look kv s.data.toList).isSome]) w

/-- how the look-up ends -/
def Found (kv : List (ByteArray × ByteArray)) (name : List UInt8) (e : Ending) : Prop := ∃ v ok, e = .returned (.tuple #[.string v, .bool ok]) ∧ Res kv name v ok

set_option maxHeartbeats 4000000 in
set_option maxRecDepth 100000 in
theorem find_walk (kv : List (ByteArray × ByteArray)) (bd bm : Nat) (name : ByteArray) (hn : name.size ≤ 1048576) (w : World) (hd : w.cell? ⟨bd, 0, none⟩ = some (.map (some bm))) (hlk : Looks kv bm name.size w) :
    Calls Try.prog 24 #[.pointer (some ⟨bd, 0, none⟩), .string name] w fun e w' => Found kv name.data.toList e ∧ w' = w := by
  have HL := Lib.hid hlk
  clear hlk
  go_enter Try.func24, Try.ntmps24
  go_wp2
  go_loop [6] (fun v => ∃ s : ByteArray, v = .string s ∧ s.size ≤ name.size ∧ Hid (Cur kv name.data.toList s.data.toList)) (fun v => strLen v)
  case atStart => exact ⟨name, rfl, Nat.le_refl _, Lib.hid (Cur.start _ _)⟩
  case round =>
    obtain ⟨s, rfl, hsz, hcur⟩ := hrel
    have h1 := HL.out s hsz
    cases hl : LookP.look kv s.data.toList with
    | some v =>
      have HR := Lib.hid (hcur.out.hit hl)
      rw [hl] at h1
      simp only [Option.getD_some, Option.isSome_some] at h1
      clear hl
      go_wp2
      go_ret2
      exact ⟨⟨v, true, rfl, HR.out⟩, rfl⟩
    | none =>
      rw [hl] at h1
      simp only [Option.getD_none, Option.isSome_none] at h1
      by_cases h0 : s.data.toList = []
      · have e1 : s.toList.isEmpty = true := by rw [Lib.toList_data, h0]; rfl
        have HR := Lib.hid (Cur.none_empty (by have := hcur.out; rw [h0] at this; exact this) (by rw [← h0]; exact hl))
        clear hl h0
        go_wp2
        go_ret2
        exact ⟨⟨_, false, rfl, HR.out⟩, rfl⟩
      · have e1 : s.toList.isEmpty = false := by rw [Lib.toList_data]; simpa using h0
        have hpos : 0 < s.size := by rw [← size_len]; exact List.length_pos_iff.2 h0
        by_cases hdot : 0 ≤ Lib.indexByte s.data.toList 46
        · obtain ⟨d, hdd⟩ := Int.eq_ofNat_of_zero_le hdot
          obtain ⟨i1, i2, i3⟩ := indexByte_some _ _ _ hdd
          have HN := Lib.hid (hcur.out.dot hl i2 i3)
          have hd1 : d < s.size := by rw [← size_len]; exact i1
          have HD := Lib.hid hdd
          clear hl h0 hdot hdd i1 i2 i3 hcur
          go_wp2_with fail
          refine (index_byte _ _ _).mono ?_
          rintro e w2 ⟨rfl, rfl⟩
          rw [show (46 : Int).toNat.toUInt8 = 46 from rfl, HD.out]
          go_wp2
          go_round
          case rel => exact ⟨_, rfl, by simp [ByteArray.size_extract]; omega, Lib.hid (by rw [Lib.extract_to_end]; exact HN.out)⟩
          case measure => simp [strLen]; omega
        · have i3 := indexByte_none s.data.toList 46 (by omega)
          have HN := Lib.hid (hcur.out.last hl i3)
          have hneg : Lib.indexByte s.data.toList 46 < 0 := by omega
          generalize hq : Lib.indexByte s.data.toList 46 = q at hneg
          have HD := Lib.hid hq
          clear hl h0 hdot hcur hq i3
          go_wp2_with fail
          refine (index_byte _ _ _).mono ?_
          rintro e w2 ⟨rfl, rfl⟩
          rw [show (46 : Int).toNat.toUInt8 = 46 from rfl, HD.out]
          go_wp2
          go_round
          case rel => exact ⟨_, rfl, Nat.zero_le _, HN⟩
          case measure => simp [strLen]; exact hpos

set_option maxHeartbeats 4000000 in
set_option maxRecDepth 100000 in
/-- ZZLookup -/
theorem zzlookup_walk (kv : List (ByteArray × ByteArray)) (bm : Nat) (name : ByteArray) (hn : name.size ≤ 1048576) (w : World) (hlk : ∀ o, Looks kv bm name.size (w.alloc o)) :
    Calls Try.prog 18 #[.map (some bm), .string name] w fun e w' => Found kv name.data.toList e ∧ Below w.heap.size w w' := by
  have HL := Lib.hid hlk
  clear hlk
  go_enter Try.func18, Try.ntmps18
  go_wp2_with fail
  refine (find_walk kv _ bm name hn _ (by simp) (HL.out _)).mono ?_
  rintro e w2 ⟨⟨v, ok, rfl, hr⟩, rfl⟩
  have HR := Lib.hid hr
  clear hr
  go_wp2
  go_ret2
  exact ⟨⟨v, ok, rfl, HR.out⟩, (Below.refl _ _).alloc (Nat.le_refl _) _⟩
end Go.Proofs.Qxb6603108a
