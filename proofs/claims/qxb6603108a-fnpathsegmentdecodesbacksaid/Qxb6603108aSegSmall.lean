import Derived.Test.Qxb6603108aSmall
import Derived.Test.Qxb6603108aPlain
import Derived.WalkSmall
namespace Go.Proofs.Qxb6603108a
open Go.RowKit Plain

theorem retb {a b : Bool} (h : a = b) : Ending.returned (.bool a) = .returned (.bool b) := by rw [h]

set_option maxHeartbeats 2000000 in
set_option maxRecDepth 100000 in
/-- isSegmentChar -/
theorem seg_walk (c : UInt8) (w : World) :
    Calls Try.prog 27 #[.int .u8 (c.toNat : Int)] w fun e w' => e = .returned (.bool (seg c)) ∧ w' = w := by
  have hc := c.toNat_lt
  by_cases h1 : 97 ≤ c.toNat ∧ c.toNat ≤ 122
  · have e : seg c = true := by simp [seg, h1.1, h1.2]
    rw [e]
    obtain ⟨p, q⟩ := h1
    go_enter Try.func27, Try.ntmps27
    go_wp2
    go_ret
    exact ⟨rfl, rfl⟩
  · by_cases h2 : 65 ≤ c.toNat ∧ c.toNat ≤ 90
    · have e : seg c = true := by simp [seg, h2.1, h2.2]
      rw [e]
      obtain ⟨p, q⟩ := h2
      go_enter Try.func27, Try.ntmps27
      go_wp2
      go_ret
      exact ⟨rfl, rfl⟩
    · by_cases h3 : 48 ≤ c.toNat ∧ c.toNat ≤ 57
      · have e : seg c = true := by simp [seg, h3.1, h3.2]
        rw [e]
        obtain ⟨p, q⟩ := h3
        go_enter Try.func27, Try.ntmps27
        go_wp2
        go_ret
        exact ⟨rfl, rfl⟩
      · have e : seg c = decide (0 ≤ Lib.indexByte lits c) := by
          have a1 : (decide (97 ≤ c.toNat) && decide (c.toNat ≤ 122)) = false := by simp; omega
          have a2 : (decide (65 ≤ c.toNat) && decide (c.toNat ≤ 90)) = false := by simp; omega
          have a3 : (decide (48 ≤ c.toNat) && decide (c.toNat ≤ 57)) = false := by simp; omega
          unfold seg
          rw [a1, a2, a3]
          rfl
        have HE := Lib.hid e
        have hcase : c.toNat < 48 ∨ (58 ≤ c.toNat ∧ c.toNat ≤ 64) ∨ (91 ≤ c.toNat ∧ c.toNat ≤ 96) ∨ 123 ≤ c.toNat := by omega
        have hq : ((c.toNat : Int).toNat).toUInt8 = c := by simp
        have HQ := Lib.hid hq
        clear e h1 h2 h3 hq
        rcases hcase with p | ⟨p, q⟩ | ⟨p, q⟩ | p
        all_goals
          go_enter Try.func27, Try.ntmps27
          go_wp2_with fail
          refine (index_byte _ _ _).mono ?_
          rintro e w2 ⟨rfl, rfl⟩
          rw [HQ.out]
          go_wp2
          go_ret
          exact ⟨retb (by rw [HE.out]; rfl), rfl⟩

set_option maxHeartbeats 2000000 in
set_option maxRecDepth 100000 in
/-- zzIsUpperHex, at a digit -/
theorem upper_walk (d : Nat) (hd : d < 16) (w : World) :
    Calls Try.prog 13 #[.int .u8 (hx d : Int)] w fun e w' => e = .returned (.bool true) ∧ w' = w := by
  by_cases h : d < 10
  · have e : hx d = 48 + d := by simp [hx, h]
    rw [e]
    clear e
    go_enter Try.func13, Try.ntmps13
    go_wp2
    go_ret
    exact ⟨rfl, rfl⟩
  · have e : hx d = 55 + d := by simp [hx, h]
    rw [e]
    clear e
    have d1 : decide (((55 + d : Nat) : Int) ≤ 57) = false := by simp; omega
    have d2 : decide (((55 + d : Nat) : Int) ≤ 70) = true := by simp; omega
    go_enter Try.func13, Try.ntmps13
    go_wp2
    go_ret
    exact ⟨retb (by first | rfl | (simp; omega)), rfl⟩

set_option maxHeartbeats 2000000 in
set_option maxRecDepth 100000 in
/-- zzHexValue, at a digit -/
theorem hex_walk (d : Nat) (hd : d < 16) (w : World) :
    Calls Try.prog 10 #[.int .u8 (hx d : Int)] w fun e w' => e = .returned (.tuple #[.int .u8 (d : Int), .bool true]) ∧ w' = w := by
  by_cases h : d < 10
  · have e : hx d = 48 + d := by simp [hx, h]
    rw [e]
    clear e
    go_enter Try.func10, Try.ntmps10
    go_wp2
    go_ret2
    exact ⟨by simp; omega, rfl⟩
  · have e : hx d = 55 + d := by simp [hx, h]
    rw [e]
    clear e
    go_enter Try.func10, Try.ntmps10
    go_wp2
    go_ret2
    exact ⟨by simp; omega, rfl⟩

theorem bit_at (K : Nat) (hK : K < 18446744073709551616) (m : Nat) : (bits .and .u64 ((K : Int) / 2 ^ m) 1 == 1) = (K / 2 ^ m % 2 == 1) := by
  have e0 : ((K : Int) / 2 ^ m) = ((K / 2 ^ m : Nat) : Int) := by push_cast; rfl
  have hle : K / 2 ^ m ≤ K := Nat.div_le_self _ _
  rw [e0]
  generalize K / 2 ^ m = q at hle
  rw [and_one_u64 _ (by omega) (by omega), Bool.eq_iff_iff, beq_iff_eq, beq_iff_eq]
  omega

set_option maxHeartbeats 2000000 in
set_option maxRecDepth 100000 in
/-- zzSegAllowed -/
theorem allowed_walk (n : Nat) (hn : n < 256) (w : World) :
    Calls Try.prog 12 #[.int .u8 (n : Int)] w fun e w' => e = .returned (.bool (allowed n)) ∧ w' = w := by
  by_cases h1 : n < 64
  · go_enter Try.func12, Try.ntmps12
    go_wp2
    go_ret
    exact ⟨retb ((bit_at 3458623578763689984 (by decide) n).trans (by simp [allowed, h1])), rfl⟩
  · by_cases h2 : n < 128
    · obtain ⟨m, rfl⟩ : ∃ m, n = m + 64 := ⟨n - 64, by omega⟩
      go_enter Try.func12, Try.ntmps12
      go_wp2
      go_ret
      exact ⟨retb ((bit_at 5188146764422578175 (by decide) m).trans (by simp only [allowed, h1, h2, if_true, if_false, Nat.add_sub_cancel])), rfl⟩
    · have e : allowed n = false := by simp [allowed, h1, h2]
      rw [e]
      clear e
      go_enter Try.func12, Try.ntmps12
      go_wp2
      go_ret
      exact ⟨rfl, rfl⟩
end Go.Proofs.Qxb6603108a
