import Derived.Test.Qxb6603108aLookSizes
namespace Go.Proofs.Qxb6603108a
open Go.RowKit LookP

theorem build_any (ks vs : List ByteArray) (vk vv : Value) (w : World) (hk : Cl w vk ks) (hv : Cl w vv vs) (hl : ks.length = vs.length) (hn : ks.length ≤ 65536) (hks : ∀ x ∈ ks, x.size ≤ maxLen) (hvs : ∀ x ∈ vs, x.size ≤ maxLen) :
    Calls Try.prog 17 #[vk, vv] w fun e w' => e = .returned (.map (some w.heap.size)) ∧ w'.ownsMap Try.prog 9 (plainElem Try.prog 9) w.heap.size ks.length (Dm (ks.zip vs)) ∧ Below w.heap.size w w' := by
  obtain ⟨ak, ck, rfl, hk⟩ := hk
  obtain ⟨av, cv, rfl, hv⟩ := hv
  rcases Nat.eq_zero_or_pos ks.length with h0 | h0
  · have hv0 : vs.length = 0 := by omega
    rw [h0, hv0]
    obtain rfl := List.length_eq_zero_iff.1 h0
    exact build_none ak av ck cv w
  · obtain ⟨gk, rfl, lk, ck'⟩ := hk h0
    obtain ⟨gv, rfl, lv, cv'⟩ := hv (by omega)
    rw [← hl]
    exact build_some ks.length ck cv gk gv ks vs rfl hl.symm hn hks hvs w lk lv ck' cv'

theorem zip_take (ks vs : List ByteArray) (j : Nat) (hk : j < ks.length) (hv : j < vs.length) : (ks.zip vs).take (j + 1) = (ks.zip vs).take j ++ [(ks[j], vs[j])] := by
  rw [List.take_succ_eq_append_getElem (by simp; omega)]; simp

set_option maxHeartbeats 8000000 in
set_option maxRecDepth 100000 in
theorem law_main (a0 a1 : Option Addr) (n c0 c1 : Nat) (s0 s1 : List ByteArray) (name : ByteArray) (hname : name.size ≤ maxLen) (w : World) (h0 : IsStrs w a0 n c0 s0) (h1 : IsStrs w a1 n c1 s1) (q0 : n ≤ 65536) (q2 : name.size ≤ 16384) :
    Calls Try.prog 5 #[.slice a0 n c0, .slice a1 n c1, .string name] w fun e w' => e = .returned (.bool true) ∧ Below w.heap.size w w' := by
  have H0 := Lib.hid h0
  have H1 := Lib.hid h1
  clear h0 h1
  have d3 : ((n : Int) != (n : Int)) = false := by simp
  go_enter Try.func5, Try.ntmps5
  go_wp2_with fail
  refine (bytes_walk _ _ _ _ _ _ s0 s1 name hname _ H0.out H1.out).mono ?_
  rintro e w' ⟨⟨b, rfl⟩, hw⟩
  subst hw
  cases b with
  | false =>
    go_wp2
    go_ret
    exact ⟨rfl, Below.refl _ _⟩
  | true =>
    go_wp2_with fail
    refine (big_some _ _ _ _ _ _ s0 s1 name _ H0.out H1.out q0 q0 q2).mono ?_
    rintro e w2 ⟨⟨b, rfl⟩, hw⟩
    subst hw
    cases b with
    | true =>
      go_wp2
      go_ret
      exact ⟨rfl, Below.refl _ _⟩
    | false =>
      have L0 := H0.out.1
      have L1 := H1.out.1
      go_wp2_with fail
      refine (clone_walk _ _ _ s0 _ H0.out q0).mono ?_
      rintro e w3 ⟨⟨v0, rfl, hv0⟩, hb3⟩
      have H1b := Lib.hid (H1.out.below hb3)
      have X0 := Lib.hid hv0
      have hsz3 := hb3.size
      clear hv0 L0 L1
      go_wp2_with fail
      refine (clone_walk _ _ _ s1 _ H1b.out q0).mono ?_
      rintro e w4 ⟨⟨v1, rfl, hv1⟩, hb4⟩
      have X1 := Lib.hid hv1
      have X0b := Lib.hid (X0.out.below hb4)
      have hb24 := hb3.trans (hb4.mono hsz3)
      have hsz4 := hb24.size
      clear hv1 X0 hb3 hb4 H1b
      go_wp2_with fail
      refine (build_any s0 s1 _ _ _ X0b.out X1.out (H0.out.1.trans H1.out.1.symm) (by rw [H0.out.1]; exact q0) H0.out.2.2.1 H1.out.2.2.1).mono ?_
      rintro e w5 ⟨rfl, hmap, hb5⟩
      have Y0 := Lib.hid (X0b.out.below hb5)
      have Y1 := Lib.hid (X1.out.below hb5)
      have HM := Lib.hid hmap
      have hb25 := hb24.trans (hb5.mono hsz4)
      have hsz5 := hb25.size
      clear hmap hb5 hb24 X0b X1
      go_wp2_with fail
      refine (zzlookup_walk (s0.zip s1) _ name (by omega) _ (fun o => looks_of (HM.out.alloc o) hname)).mono ?_
      rintro e w6 ⟨⟨got, ok, rfl, hr⟩, hb6⟩
      have HR := Lib.hid hr
      have Z0 := Lib.hid (Y0.out.below hb6)
      have Z1 := Lib.hid (Y1.out.below hb6)
      have hb26 := hb25.trans (hb6.mono hsz5)
      clear hr hb6 hb25 Y0 Y1 HM
      obtain ⟨ak, ck, e0, hk⟩ := Z0.out
      obtain ⟨av, cv, e1, hv⟩ := Z1.out
      rw [e0, e1]
      have K0 := Lib.hid hk
      have K1 := Lib.hid hv
      have HL := Lib.hid (And.intro H0.out.1 H1.out.1)
      have H0s := Lib.hid H0.out.2.2.1
      clear hk hv e0 e1 Z0 Z1 H0 H1
      rw [HL.out.1, HL.out.2]
      go_wp2
      go_loop [10, 11, 12] (fun vb vw vj => ∃ (j : Nat) (best : Int) (want : ByteArray), vb = .int .i64 best ∧ vw = .string want ∧ vj = .int .i64 j ∧ j ≤ n ∧ Hid (Best ((s0.zip s1).take j) name.data.toList best want)) (fun _ _ vj => n - (intOf vj).toNat)
      case atStart => exact ⟨0, -1, ByteArray.empty, rfl, rfl, rfl, Nat.zero_le _, Lib.hid (Best.start _)⟩
      case round =>
        obtain ⟨j, best, want, rfl, rfl, rfl, hj, hB⟩ := hrel
        have hrng := hB.out.range
        rw [size_len] at hrng
        by_cases hlt : j < n
        · have hj0 : j < s0.length := by rw [HL.out.1]; exact hlt
          have hj1 : j < s1.length := by rw [HL.out.2]; exact hlt
          obtain ⟨gk, rfl, _, ck1⟩ := K0.out (by omega)
          obtain ⟨gv, rfl, _, cv1⟩ := K1.out (by omega)
          have cc := ck1 j hj0
          have cv2 := cv1 j hj1
          have HZ := Lib.hid (zip_take s0 s1 j hj0 hj1)
          have hxs := H0s.out _ (List.getElem_mem hj0)
          generalize s0[j] = x at cc HZ hxs
          generalize s1[j] = y at cv2 HZ
          unfold maxLen at hxs
          have i1 : (j : Int) < (n : Int) := by omega
          clear ck1 cv1 hj0 hj1
          cases he : ends name.data.toList x.data.toList with
          | true =>
            have hls := (ends_iff _ _).1 he
            by_cases hb : best ≤ (x.size : Int)
            · have hd : decide (best ≤ (x.size : Int)) = true := by simpa using hb
              have HN := Lib.hid (hB.out.take (v := y) hls (by rw [size_len]; exact hb))
              have HE := Lib.hid he
              clear he hls hB
              go_wp2_with fail
              refine (ends_walk name x (by omega) _).mono ?_
              rintro e w7 ⟨rfl, rfl⟩
              rw [HE.out]
              go_wp2
              go_round
              case rel => exact ⟨j + 1, _, _, rfl, rfl, by go_num, by omega, Lib.hid (by rw [HZ.out, ← size_len]; exact HN.out)⟩
              case measure => simp [intOf]; omega
            · have hd : decide (best ≤ (x.size : Int)) = false := by simpa using hb
              have HN := Lib.hid (hB.out.small (k := x) (v := y) (by rw [size_len]; omega))
              have HE := Lib.hid he
              clear he hls hB
              go_wp2_with fail
              refine (ends_walk name x (by omega) _).mono ?_
              rintro e w7 ⟨rfl, rfl⟩
              rw [HE.out]
              go_wp2
              go_round
              case rel => exact ⟨j + 1, _, _, rfl, rfl, by go_num, by omega, Lib.hid (by rw [HZ.out]; exact HN.out)⟩
              case measure => simp [intOf]; omega
          | false =>
            have HN := Lib.hid (hB.out.miss (v := y) (ends_false he))
            have HE := Lib.hid he
            clear he hB
            go_wp2_with fail
            refine (ends_walk name x (by omega) _).mono ?_
            rintro e w7 ⟨rfl, rfl⟩
            rw [HE.out]
            go_wp2
            go_round
            case rel => exact ⟨j + 1, _, _, rfl, rfl, by go_num, by omega, Lib.hid (by rw [HZ.out]; exact HN.out)⟩
            case measure => simp [intOf]; omega
        · have hjn : j = n := by omega
          have htk : (s0.zip s1).take j = s0.zip s1 := List.take_of_length_le (by simp [HL.out.1, HL.out.2]; omega)
          have hB2 := hB.out
          rw [htk] at hB2
          by_cases hneg : best < 0
          · obtain ⟨rfl, rfl⟩ := law_none HR.out hB2 hneg
            have he1 : ByteArray.empty.toList.isEmpty = true := by rw [Lib.toList_data]; rfl
            clear hB hB2 htk hjn HR
            go_wp2
            go_ret
            exact ⟨rfl, hb26⟩
          · obtain ⟨rfl, rfl⟩ := law_some HR.out hB2 (by omega)
            clear hB hB2 htk hjn HR
            go_wp2
            go_ret
            exact ⟨rfl, hb26⟩
end Go.Proofs.Qxb6603108a
