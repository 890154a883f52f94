import Derived.Test.Qxb6603108aRows
import Derived.Test.Qxb6603108aLookLaw
import Derived.WalkKit
import Derived.ProofKit
import Derived.OpenShut
import Derived.ShutString
import Derived.ChangeOld
import Derived.Below
import Derived.SliceStrings
namespace Go.Proofs.Qxb6603108a
open Go.ChangeShapes Go.WideShapes Go.ChangeAt Go.RowKit LookP
open Go.ChangeMaps (open_string shut_string)

set_option maxHeartbeats 2000000 in
set_option maxRecDepth 100000 in
theorem look_law (a0 a1 : Option Addr) (n0 c0 n1 c1 : Nat) (s0 s1 : List ByteArray) (name : ByteArray) (hname : name.size ≤ maxLen) (w : World) (h0 : IsStrs w a0 n0 c0 s0) (h1 : IsStrs w a1 n1 c1 s1) :
    Calls Try.prog 5 #[.slice a0 n0 c0, .slice a1 n1 c1, .string name] w fun e w' => e = .returned (.bool true) ∧ Below w.heap.size w w' := by
  by_cases hq : n0 = n1 ∧ n0 ≤ 65536 ∧ name.size ≤ 16384
  · obtain ⟨rfl, q0, q2⟩ := hq
    exact law_main a0 a1 n0 c0 c1 s0 s1 name hname w h0 h1 q0 q2
  · have H0 := Lib.hid h0
    have H1 := Lib.hid h1
    clear h0 h1
    by_cases hbig : 65536 < n0 ∨ 65536 < n1 ∨ 16384 < name.size
    · have HB := Lib.hid hbig
      clear hbig hq
      go_enter Try.func5, Try.ntmps5
      go_wp2_with fail
      refine (bytes_walk _ _ _ _ _ _ s0 s1 name hname _ H0.out H1.out).mono ?_
      rintro e w' ⟨⟨b, rfl⟩, hw⟩
      subst hw
      cases b with
      | false =>
        go_wp2
        go_ret
        exact ⟨rfl, Below.refl _ _⟩
      | true =>
        go_wp2_with fail
        refine (big_yes _ _ _ _ _ _ name _ HB.out).mono ?_
        rintro e w2 ⟨rfl, hw⟩
        subst hw
        go_wp2
        go_ret
        exact ⟨rfl, Below.refl _ _⟩
    · have q0 : n0 ≤ 65536 := by omega
      have q1 : n1 ≤ 65536 := by omega
      have q2 : name.size ≤ 16384 := by omega
      have d3 : ((n0 : Int) != (n1 : Int)) = true := by rw [bne_iff_ne]; intro h; exact hq ⟨by omega, q0, q2⟩
      clear hbig hq
      go_enter Try.func5, Try.ntmps5
      go_wp2_with fail
      refine (bytes_walk _ _ _ _ _ _ s0 s1 name hname _ H0.out H1.out).mono ?_
      rintro e w' ⟨⟨b, rfl⟩, hw⟩
      subst hw
      cases b with
      | false =>
        go_wp2
        go_ret
        exact ⟨rfl, Below.refl _ _⟩
      | true =>
        go_wp2_with fail
        refine (big_some _ _ _ _ _ _ s0 s1 name _ H0.out H1.out q0 q1 q2).mono ?_
        rintro e w2 ⟨⟨b, rfl⟩, hw⟩
        subst hw
        cases b with
        | true =>
          go_wp2
          go_ret
          exact ⟨rfl, Below.refl _ _⟩
        | false =>
          go_wp2
          go_ret
          exact ⟨rfl, Below.refl _ _⟩

namespace lookupRow

theorem own : ownKnob Try.prog.godebug = none := by kernel_rfl
theorem laidOut : laidOutB Try.prog = true := by kernel_rfl
theorem cells9 : Try.prog.cellsOf 9 = 1 := by kernel_rfl

/-- from the reading of an argument to what the walks ask -/
theorem isStrs_of {H : Type} {enc : TypeId × Value → H} {W : World} {a : Option Addr} {n c fuel : Nat} {x : DataW H × List MemPlace}
    (h : DataW.trod enc Try.prog W 0 (fun _ => true) true fuel 29 [.slice a n c] = some x) : ∃ ss, IsStrs W a n c ss := by
  rcases open_strings Try.underlying29 Try.underlying9 cells9 h with ⟨hcs, _⟩ | ⟨ad, l, cp, ss, hcs, _, hl, hm, hz, _, hcell, hsz⟩
  · simp at hcs
    obtain ⟨rfl, rfl, rfl⟩ := hcs
    exact ⟨[], rfl, by unfold maxLen; omega, by simp, fun _ => ⟨rfl, rfl⟩, fun h => by omega⟩
  · simp at hcs
    obtain ⟨rfl, rfl, rfl⟩ := hcs
    have hlen : (ss.take n).length = n := by simp at hz; simp; omega
    refine ⟨ss.take n, hlen, by omega, fun y hy => hsz y (List.mem_of_mem_take hy), fun h => (by cases h), fun hp => ?_⟩
    have hc0 := hcell 0 (by simp at hz; omega)
    obtain ⟨b, off, spot⟩ := ad
    have hspot : spot = none := by simpa [Addr.add] using World.cell?_spot hc0
    subst hspot
    refine ⟨b, off, rfl, ?_, fun i hi => ?_⟩
    · rcases Nat.lt_or_ge b W.heap.size with h' | h'
      · exact h'
      · simp [Addr.add, World.cell?, Array.getElem?_eq_none h'] at hc0
    · have hi' : i < ss.length := by simp at hi; omega
      have := hcell i hi'
      rw [Addr.add_lit] at this
      rw [this]
      simp [List.getD, hi']

set_option maxRecDepth 100000 in
theorem lifted (os : Os) (started : os.Started) (H : Type) (enc : TypeId × Value → H) :
    ReturnsInHanded {} Try.checked os 5 .any (Rows.fnLookupLongestWholeLabelEntrySpec.pre6 enc Try.prog Try.f5 Rows.fnLookupLongestWholeLabelEntryRow.domain false) (Rows.fnLookupLongestWholeLabelEntrySpec.post enc Try.prog Try.f5 false true false false) := by
  refine returnsInHanded_of_change (C := Try.checked) own started (by kernel_rfl) Try.func5
    (ChangeSpec.witness6 (enc := enc) (C := Try.checked) false ⟨#[], #[.slice none 0 0, .slice none 0 0, .string ByteArray.empty], []⟩ 8 (by kernel_rfl) (by kernel_rfl) (by kernel_rfl) (by kernel_rfl)) ?_
  intro W base args ds gs before hval0 hW hcnd _
  have hval : ∀ (j : Nat) t v, Try.f5.params[j]? = some t → args[j]? = some v → Value.okWide Try.prog W .any base t v := hval0
  have hW' := hW
  obtain ⟨p, q, hA0, hV, rfl, hfz, hnd⟩ := hW
  have hA : DataW.TrodAll enc Try.prog W 0 (fun _ => true) true Try.f5.params.toList args.toList ds p := hA0
  rw [Try.params5] at hA hval
  obtain ⟨v0, vs0, d0, ds0, p0, q0, hargs, rfl, rfl, h0, r0⟩ := trodAll_cons hA
  obtain ⟨v1, vs1, d1, ds1, p1, q1, rfl, rfl, rfl, h1, r1⟩ := trodAll_cons r0
  obtain ⟨v2, vs2, d2, ds2, p2, q2, rfl, rfl, rfl, h2, r2⟩ := trodAll_cons r1
  obtain ⟨rfl, rfl, rfl⟩ := trodAll_nil r2
  obtain rfl : args = #[v0, v1, v2] := by cases args; simp_all
  obtain ⟨rfl, rfl⟩ := trodVars_none hV
  obtain ⟨a0, n0, c0, rfl⟩ := okWide_slice Try.underlying29 (hval 0 29 v0 rfl rfl)
  obtain ⟨a1, n1, c1, rfl⟩ := okWide_slice Try.underlying29 (hval 1 29 v1 rfl rfl)
  have k0 := h0
  have k1 := h1
  have lt0 : ∀ x ∈ p0, x.block < W.heap.size := by obtain ⟨m, hm⟩ := k0; exact DataW.trod_lt m _ _ _ hm
  have lt1 : ∀ x ∈ p1, x.block < W.heap.size := by obtain ⟨m, hm⟩ := k1; exact DataW.trod_lt m _ _ _ hm
  obtain ⟨s0, g0⟩ : ∃ ss, IsStrs W a0 n0 c0 ss := by obtain ⟨fuel, hf⟩ := h0; exact isStrs_of (by simpa [Value.cells] using hf)
  obtain ⟨s1, g1⟩ : ∃ ss, IsStrs W a1 n1 c1 ss := by obtain ⟨fuel, hf⟩ := h1; exact isStrs_of (by simpa [Value.cells] using hf)
  obtain ⟨a2, rfl, rfl, rfl, w2⟩ := open_string Try.underlying9 (hval 2 9 v2 rfl rfl) h2
  clear hA0 hval0
  refine (look_law a0 a1 n0 c0 n1 c1 s0 s1 a2 w2 W g0 g1).mono fun e W' ⟨he, bel⟩ => ?_
  subst he
  exact ⟨_, rfl, _, _, _, [], _, [], hW', trodAll_mk1 (shut_bool Try.underlying4 _), (trodAll_cons_mk (Below.trod laidOut (by kernel_rfl) (of_decide_eq_true (by kernel_rfl)) k0 bel lt0) (trodAll_cons_mk (Below.trod laidOut (by kernel_rfl) (of_decide_eq_true (by kernel_rfl)) k1 bel lt1) (trodAll_cons_mk (shut_string Try.underlying9 w2) trodAll_mk0))), rfl, bel.frame _, fun h => by cases h⟩

end lookupRow

/-- THE STATEMENT -/
theorem fnLookupLongestWholeLabelEntry_proved : Rows.FnLookupLongestWholeLabelEntrySaid :=
  OpenClaim.holds_of_wide 5 Try.f5 rfl rfl rfl rfl rfl rfl rfl ⟨rfl, rfl, rfl, rfl, rfl⟩ rfl rfl rfl rfl rfl (by kernel_rfl) Try.func5 (by kernel_rfl)
    (of_decide_eq_true (by kernel_rfl)) (by unfold Func.isWrapper; first | (rw [if_pos (by decide +kernel)]; kernel_rfl) | (rw [if_neg (by decide +kernel)]; exact ⟨rfl, rfl⟩))
    (fun os started H enc _ => lookupRow.lifted os started H enc)
end Go.Proofs.Qxb6603108a
