import Derived.Test.Qxb6603108aSegDec
namespace Go.Proofs.Qxb6603108a
open Go.RowKit Plain

set_option maxHeartbeats 8000000 in
set_option maxRecDepth 100000 in
theorem can_small (s : ByteArray) (hs : s.size ≤ 1048576) (w : World) :
    Calls Try.prog 4 #[.string s] w fun e w' => e = .returned (.bool true) ∧ Below w.heap.size w w' := by
  obtain ⟨t, ht⟩ : ∃ t : ByteArray, t = ⟨(enc s.data.toList).toArray⟩ := ⟨_, rfl⟩
  have hsl : s.data.toList.length = s.size := by simp
  have htz : t.size = (enc s.data.toList).length := by rw [ht]; simp [ByteArray.size]
  have hget : ∀ i (h : i < t.size), t[i] = (enc s.data.toList).getD i 0 := by subst ht; exact fun i h => getD_ba _ i h
  have hel := enc_len s.data.toList
  have HW := Lib.hid (fun W => zzsegment_walk s hs W)
  rw [← ht] at HW
  have HT := Lib.hid (And.intro htz (And.intro hget hsl))
  have htb : t.size ≤ 3 * s.size := by omega
  have hd0 : decide ((1048576 : Int) < (s.size : Int)) = false := by simp; omega
  clear ht htz hget hsl hel
  go_enter Try.func4, Try.ntmps4
  go_wp2_with (first | (go_at_call 9; refine (HW.out _).mono ?_; rintro e w1 ⟨rfl, hb0⟩) | go_in)
  go_loop [4, 5] (fun c i => ∃ k : Nat, k ≤ s.size ∧ i = .int .i64 (pos s.data.toList k : Nat) ∧ c = .int .i64 (cnt s.data.toList k : Nat)) (fun _ i => t.size - (intOf i).toNat)
  case atStart => exact ⟨0, Nat.zero_le _, by rw [pos_zero]; rfl, by rw [cnt_zero]; rfl⟩
  case round =>
    obtain ⟨k, hk, rfl, rfl⟩ := hrel
    have hp3 := pos_le3 s.data.toList k
    have hq := cnt_le s.data.toList k
    have htz := HT.out.1
    have hsl := HT.out.2.2
    generalize hp : pos s.data.toList k = p at *
    by_cases hlt : k < s.size
    · have hll : k < s.data.toList.length := by omega
      have hc256 : s.data.toList[k].toNat < 256 := s.data.toList[k].toNat_lt
      have hcs := cnt_succ s.data.toList k hll
      cases hh : seg s.data.toList[k] with
      | true =>
        obtain ⟨p1, p2, g0, g1⟩ := at_miss s.data.toList k hll hh
        rw [hp] at p1 p2 g0
        have hi1 : p < t.size := by omega
        have e0 : t[p] = s.data.toList[k] := (HT.out.2.1 p hi1).trans g0
        have hne : ((t[p].toNat : Int) != 37) = true := by
          rw [e0, bne_iff_ne]; intro h; exact g1 (by apply UInt8.toNat_inj.1; show s.data.toList[k].toNat = 37; omega)
        have hal : allowed t[p].toNat = true := by rw [e0, ← seg_allowed]; exact hh
        have ht256 : t[p].toNat < 256 := t[p].toNat_lt
        rw [hh] at hcs
        simp only [if_true, Nat.add_zero] at hcs
        have HP := Lib.hid (And.intro p1 (And.intro hcs hal))
        generalize hcn : cnt s.data.toList k = cn at *
        clear p1 p2 g0 g1 hh e0 htz hsl hp hcs hal hcn
        go_wp2_with fail
        refine (allowed_walk _ ht256 _).mono ?_
        rintro e w3 ⟨rfl, hw⟩
        subst hw
        rw [HP.out.2.2]
        go_wp2
        go_round
        case rel => exact ⟨k + 1, by omega, by rw [HP.out.1]; go_num, by rw [HP.out.2.1]⟩
        case measure => simp [intOf]; omega
      | false =>
        obtain ⟨p1, p2, g0, g1, g2⟩ := at_hit s.data.toList k hll hh
        rw [hp] at p1 p2 g0 g1 g2
        have hi0 : p < t.size := by omega
        have hi1 : p + 1 < t.size := by omega
        have hi2 : p + 2 < t.size := by omega
        have e0 : t[p] = 37 := (HT.out.2.1 p hi0).trans g0
        have e1 : t[p + 1] = h1 s.data.toList[k] := (HT.out.2.1 (p + 1) hi1).trans g1
        have e2 : t[p + 2] = h2 s.data.toList[k] := (HT.out.2.1 (p + 2) hi2).trans g2
        have hne : ((t[p].toNat : Int) != 37) = false := by rw [e0]; rfl
        have n1 : t[p + 1].toNat = hx (s.data.toList[k].toNat / 16) := by rw [e1, h1_nat]
        have n2 : t[p + 2].toNat = hx (s.data.toList[k].toNat % 16) := by rw [e2, h2_nat]
        have hal : allowed s.data.toList[k].toNat = false := by rw [← seg_allowed]; exact hh
        rw [hh] at hcs
        simp at hcs
        have HP := Lib.hid (And.intro p1 (And.intro n1 (And.intro n2 hcs)))
        clear p1 p2 g0 g1 g2 hh e0 e1 e2 htz hsl hp n1 n2 hcs
        generalize hcn : cnt s.data.toList k = cn at *
        generalize s.data.toList[k] = x at HP hc256 hal
        generalize hxv : x.toNat = xv at HP hc256 hal
        have hor := or_nib xv hc256
        have HA := Lib.hid hal
        clear hxv hcn hal
        go_wp2_with fail
        rw [HP.out.2.1]
        refine (upper_walk _ (by omega) _).mono ?_
        rintro e w3 ⟨rfl, hw⟩
        subst hw
        go_wp2_with fail
        rw [HP.out.2.2.1]
        refine (upper_walk _ (by omega) _).mono ?_
        rintro e w3 ⟨rfl, hw⟩
        subst hw
        go_wp2_with fail
        rw [HP.out.2.1]
        refine (hex_walk _ (by omega) _).mono ?_
        rintro e w3 ⟨rfl, hw⟩
        subst hw
        go_wp2_with fail
        rw [HP.out.2.2.1]
        refine (hex_walk _ (by omega) _).mono ?_
        rintro e w3 ⟨rfl, hw⟩
        subst hw
        go_wp2_with fail
        refine (allowed_walk _ hc256 _).mono ?_
        rintro e w3 ⟨rfl, hw⟩
        subst hw
        rw [HA.out]
        go_wp2
        go_round
        case rel => exact ⟨k + 1, by omega, by rw [HP.out.1]; go_num, by rw [HP.out.2.2.2]; go_num⟩
        case measure => simp [intOf]; omega
    · obtain rfl : k = s.size := by omega
      have hpt : p = t.size := by rw [← hp, htz, ← hsl]; exact pos_end _
      subst hpt
      have hfin : t.size = s.size + 2 * cnt s.data.toList s.size := by
        have := pos_cnt s.data.toList
        rw [hsl] at this
        omega
      generalize hcn : cnt s.data.toList s.size = cn at *
      have hbe : ((t.size : Int) == (s.size : Int) + 2 * (cn : Int)) = true := by simp; omega
      clear hfin hcn hp htz hsl
      go_wp2
      go_ret
      exact ⟨rfl, hb0⟩
end Go.Proofs.Qxb6603108a
