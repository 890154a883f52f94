import Derived.Test.Qxb6603167aProg
import Derived.WalkKit
import Derived.WalkSpells
import Derived.Laws.Externs
import Derived.Lib.Bytealg
import Derived.Lib.Strings
import Derived.Lib.IndexBytes
import Derived.Lib.Walk
import Derived.Lib.Hide
import Derived.RegionTactic
import Derived.ChangeAlike
namespace Go.Proofs.Qxb6603167a
open Go.RowKit

theorem indexByte_some : ∀ (l : List UInt8) (c : UInt8) (d : Nat), Lib.indexByte l c = (d : Int) → d < l.length ∧ l = l.take d ++ c :: l.drop (d + 1) ∧ c ∉ l.take d
  | [], c, d, h => by simp [Lib.indexByte] at h
  | b :: r, c, d, h => by
    simp only [Lib.indexByte] at h
    by_cases hb : b = c
    · subst hb
      simp at h
      have hd : d = 0 := by omega
      subst hd
      simp
    · have hb' : (b == c) = false := by simpa using hb
      have hg := Lib.indexByte_ge r c
      simp only [hb'] at h
      by_cases h1 : Lib.indexByte r c = -1
      · simp [h1] at h
      · have h1' : (Lib.indexByte r c == -1) = false := by simpa using h1
        simp only [h1'] at h
        simp at h
        obtain ⟨d', hd'⟩ : ∃ d' : Nat, d = d' + 1 := ⟨d - 1, by omega⟩
        subst hd'
        obtain ⟨i1, i2, i3⟩ := indexByte_some r c d' (by omega)
        refine ⟨by simp; omega, ?_, ?_⟩
        · rw [List.take_succ_cons, List.drop_succ_cons, List.cons_append, ← i2]
        · rw [List.take_succ_cons]
          simp only [List.mem_cons, not_or]
          exact ⟨fun e => hb e.symm, i3⟩

theorem indexByte_none : ∀ (l : List UInt8) (c : UInt8), Lib.indexByte l c < 0 → c ∉ l
  | [], c, _ => by simp
  | b :: r, c, h => by
    have ih := indexByte_none r c
    have hg := Lib.indexByte_ge r c
    simp only [Lib.indexByte] at h
    by_cases hb : b = c
    · subst hb; simp at h
    · have hb' : (b == c) = false := by simpa using hb
      simp only [hb'] at h
      by_cases h1 : Lib.indexByte r c = -1
      · simp only [List.mem_cons, not_or]
        exact ⟨fun e => hb e.symm, ih (by omega)⟩
      · have h1' : (Lib.indexByte r c == -1) = false := by simpa using h1
        simp only [h1'] at h
        simp at h
        omega

theorem indexByte_join (p t : List UInt8) (c : UInt8) (h : c ∉ p) : Lib.indexByte (p ++ c :: t) c = (p.length : Int) := by
  induction p with
  | nil => simp [Lib.indexByte]
  | cons b r ih =>
    simp only [List.mem_cons, not_or] at h
    have hb : (b == c) = false := by simpa using fun e : b = c => h.1 e.symm
    have hi := ih h.2
    have hn : (Lib.indexByte (r ++ c :: t) c == -1) = false := by rw [hi]; simp
    simp only [List.cons_append, Lib.indexByte, hb, hn]
    rw [hi]
    simp

set_option maxHeartbeats 1000000 in
set_option maxRecDepth 100000 in
theorem index_in (s : ByteArray) (c : Int) (w : World) :
    Calls Try.prog 12 #[.string s, .int .u8 c] w fun e w' => e = .returned (.int .i64 (Lib.indexByte s.data.toList c.toNat.toUInt8)) ∧ w' = w := by
  go_enter Try.func12, Try.ntmps12
  go_wp2
  rw [run_callFunc_extern Try.func16 (by kernel_rfl) (by kernel_rfl) (by kernel_rfl) (e := Extern.BytealgIndexByte.indexByte) (by kernel_rfl), Lib.run_indexByteString]
  simp only [Result.andThen]
  rw [Oper.upon_value]
  go_wp2
  go_ret
  exact ⟨rfl, rfl⟩

set_option maxHeartbeats 1000000 in
set_option maxRecDepth 100000 in
theorem index_one (s : ByteArray) (w : World) :
    Calls Try.prog 11 #[.string s, .string ⟨#[58]⟩] w fun e w' => e = .returned (.int .i64 (Lib.indexByte s.data.toList 58)) ∧ w' = w := by
  by_cases hq : s.data.toList = [58]
  · have hb : (([58] : List UInt8) == s.toList) = true := by rw [Lib.toList_data, hq]; rfl
    have hf : Lib.indexByte s.data.toList 58 = 0 := by rw [hq]; rfl
    rw [hf]
    clear hf hq
    go_enter Try.func11, Try.ntmps11
    go_wp2
    go_ret
    exact ⟨rfl, rfl⟩
  · have hb : (([58] : List UInt8) == s.toList) = false := by rw [Lib.toList_data]; simpa using fun h => hq h.symm
    clear hq
    go_enter Try.func11, Try.ntmps11
    go_wp2_with (go_at_call 12; refine (index_in _ _ _).mono ?_; rintro e w' ⟨rfl, rfl⟩)
    go_ret
    exact ⟨rfl, rfl⟩

set_option maxHeartbeats 1000000 in
set_option maxRecDepth 100000 in
theorem cut_some (s : ByteArray) (d : Nat) (hs : s.size ≤ 9223372036854775807) (hd : Lib.indexByte s.data.toList 58 = (d : Int)) (w : World) :
    Calls Try.prog 10 #[.string s, .string ⟨#[58]⟩] w fun e w' => e = .returned (.tuple #[.string (s.extract 0 d), .string (s.extract (d + 1) s.size), .bool true]) ∧ Below w.heap.size w w' := by
  have hlt : d < s.size := by have := (indexByte_some _ _ _ hd).1; simpa using this
  have HD := Lib.hid hd
  clear hd
  go_enter Try.func10, Try.ntmps10
  go_wp2_with (go_at_call 11; refine (index_one _ _).mono ?_; rintro e w' ⟨rfl, rfl⟩; rw [HD.out])
  go_region
  all_goals
    go_wp2
    go_ret3
    exact ⟨rfl, (Below.refl _ _).drew⟩

set_option maxHeartbeats 1000000 in
set_option maxRecDepth 100000 in
theorem cut_none (s : ByteArray) (hd : Lib.indexByte s.data.toList 58 < 0) (w : World) :
    Calls Try.prog 10 #[.string s, .string ⟨#[58]⟩] w fun e w' => e = .returned (.tuple #[.string s, .string ⟨#[]⟩, .bool false]) ∧ Below w.heap.size w w' := by
  generalize hq : Lib.indexByte s.data.toList 58 = q at hd
  have HD := Lib.hid hq
  clear hq
  go_enter Try.func10, Try.ntmps10
  go_wp2_with (go_at_call 11; refine (index_one _ _).mono ?_; rintro e w' ⟨rfl, rfl⟩; rw [HD.out])
  go_ret3
  exact ⟨rfl, Below.refl _ _⟩

set_option maxHeartbeats 1000000 in
set_option maxRecDepth 100000 in
/-- strings.Cut hands stringslite.Cut's answer on; SplitType its first two. -/
theorem split_of (s a b : ByteArray) (f : Bool) (H : Hid (∀ W : World, Calls Try.prog 10 #[.string s, .string ⟨#[58]⟩] W fun e w' => e = .returned (.tuple #[.string a, .string b, .bool f]) ∧ Below W.heap.size W w')) (w : World) :
    Calls Try.prog 6 #[.string s] w fun e w' => e = .returned (.tuple #[.string a, .string b]) ∧ Below w.heap.size w w' := by
  have H9 : Hid (∀ W : World, Calls Try.prog 9 #[.string s, .string ⟨#[58]⟩] W fun e w' => e = .returned (.tuple #[.string a, .string b, .bool f]) ∧ Below W.heap.size W w') := Lib.hid (by
    intro W
    go_enter Try.func9, Try.ntmps9
    go_wp2_with fail
    refine (H.out _).mono ?_
    rintro e w2 ⟨rfl, hb⟩
    go_wp2
    go_ret3
    exact ⟨rfl, hb⟩)
  clear H
  go_enter Try.func6, Try.ntmps6
  go_wp2_with fail
  refine (H9.out _).mono ?_
  rintro e w2 ⟨rfl, hb⟩
  go_wp2
  go_ret2
  exact ⟨rfl, hb⟩

theorem split_some (s : ByteArray) (d : Nat) (hs : s.size ≤ 9223372036854775807) (hd : Lib.indexByte s.data.toList 58 = (d : Int)) (w : World) :
    Calls Try.prog 6 #[.string s] w fun e w' => e = .returned (.tuple #[.string (s.extract 0 d), .string (s.extract (d + 1) s.size)]) ∧ Below w.heap.size w w' :=
  split_of s _ _ true (Lib.hid fun W => cut_some s d hs hd W) w

theorem split_none (s : ByteArray) (hd : Lib.indexByte s.data.toList 58 < 0) (w : World) :
    Calls Try.prog 6 #[.string s] w fun e w' => e = .returned (.tuple #[.string s, .string ⟨#[]⟩]) ∧ Below w.heap.size w w' :=
  split_of s _ _ false (Lib.hid fun W => cut_none s hd W) w

theorem mem_at (s : ByteArray) (c : UInt8) (h : c ∉ s.data.toList) (k : Nat) (hk : k < s.size) : s[k] ≠ c := fun e =>
  h (by rw [← e]; exact List.getElem_mem (l := s.data.toList) (by simpa using hk))

set_option maxHeartbeats 1000000 in
set_option maxRecDepth 100000 in
theorem colon_no (s : ByteArray) (hs : s.size ≤ 1048576) (h : (58 : UInt8) ∉ s.data.toList) (w : World) :
    Calls Try.prog 7 #[.string s] w fun e w' => e = .returned (.bool false) ∧ w' = w := by
  have HM := Lib.hid (mem_at s 58 h)
  clear h
  go_enter Try.func7, Try.ntmps7
  go_wp2
  go_loop [3] (fun i => ∃ k : Nat, k ≤ s.size ∧ i = .int .i64 k) (fun i => s.size - (intOf i).toNat)
  case atStart => exact ⟨0, Nat.zero_le _, rfl⟩
  case round =>
    obtain ⟨k, hk, rfl⟩ := hrel
    by_cases hlt : k < s.size
    · have hne : ((s[k].toNat : Int) == 58) = false := by
        simp only [beq_eq_false_iff_ne]
        intro h
        exact HM.out k hlt (by apply UInt8.toNat_inj.1; show s[k].toNat = 58; omega)
      go_wp2
      go_round
      case rel => exact ⟨k + 1, by omega, by go_num⟩
      case measure => simp [intOf]; omega
    · go_wp2
      go_ret
      exact ⟨rfl, rfl⟩

/-- zzHasColon answers some bool, and false only where there is no colon -/
def ColonSays (s : ByteArray) (e : Ending) : Prop := ∃ b : Bool, e = .returned (.bool b) ∧ (b = false → (58 : UInt8) ∉ s.data.toList)

theorem not_mem_of (s : ByteArray) (h : ∀ k (hk : k < s.size), s[k] ≠ 58) : (58 : UInt8) ∉ s.data.toList := by
  intro hm
  obtain ⟨k, hk, e⟩ := List.getElem_of_mem hm
  exact h k (by simpa using hk) e

set_option maxHeartbeats 1000000 in
set_option maxRecDepth 100000 in
theorem colon_any (s : ByteArray) (hs : s.size ≤ 1048576) (w : World) :
    Calls Try.prog 7 #[.string s] w fun e w' => ColonSays s e ∧ w' = w := by
  go_enter Try.func7, Try.ntmps7
  go_wp2
  go_loop [3] (fun i => ∃ k : Nat, k ≤ s.size ∧ i = .int .i64 k ∧ Hid (∀ j (hj : j < s.size), j < k → s[j] ≠ 58)) (fun i => s.size - (intOf i).toNat)
  case atStart => exact ⟨0, Nat.zero_le _, rfl, Lib.hid fun j _ h => by omega⟩
  case round =>
    obtain ⟨k, hk, rfl, hH⟩ := hrel
    by_cases hlt : k < s.size
    · by_cases hc : s[k] = 58
      · have hne : ((s[k].toNat : Int) == 58) = true := by rw [hc]; rfl
        clear hc
        go_wp2
        go_ret
        exact ⟨⟨true, rfl, fun h => by cases h⟩, rfl⟩
      · have hne : ((s[k].toNat : Int) == 58) = false := by
          simp only [beq_eq_false_iff_ne]
          intro h
          exact hc (by apply UInt8.toNat_inj.1; show s[k].toNat = 58; omega)
        have HN : Hid (∀ j (hj : j < s.size), j < k + 1 → s[j] ≠ 58) := Lib.hid (by
          intro j hj hlt'
          by_cases hjk : j = k
          · subst hjk; exact hc
          · exact hH.out j hj (by omega))
        clear hc hH
        go_wp2
        go_round
        case rel => exact ⟨k + 1, by omega, by go_num, HN⟩
        case measure => simp [intOf]; omega
    · have HN := Lib.hid (not_mem_of s (fun j hj => hH.out j hj (by omega)))
      clear hH
      go_wp2
      go_ret
      exact ⟨⟨false, rfl, fun _ => HN.out⟩, rfl⟩
end Go.Proofs.Qxb6603167a
