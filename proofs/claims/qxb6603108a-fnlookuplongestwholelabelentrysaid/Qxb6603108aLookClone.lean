import Derived.Test.Qxb6603108aLookBuild
import Derived.Laws.CopyOwn
import Derived.Lib.SliceRun
import Derived.Lib.Builder
namespace Go.Proofs.Qxb6603108a
open Go.RowKit LookP

theorem Try.info9 : (Try.prog.info? 9).map (fun i => (i.zero, i.size, i.bytes)) = some (some (.string ByteArray.empty), 1, 16) := by kernel_rfl
theorem Try.size9 : (Try.prog.info? 9).map (·.size) = some 1 := by kernel_rfl

/-- A slice of strings that came in. -/
def IsStrs (w : World) (a : Option Addr) (n c : Nat) (ss : List ByteArray) : Prop :=
  ss.length = n ∧ n ≤ maxLen ∧ (∀ x ∈ ss, x.size ≤ maxLen) ∧ (a = none → n = 0 ∧ c = 0) ∧
    (0 < n → ∃ b off, a = some ⟨b, off, none⟩ ∧ b < w.heap.size ∧ ∀ i (h : i < ss.length), w.cell? ⟨b, off + i, none⟩ = some (.string ss[i]))

theorem IsStrs.below {w w' : World} {a : Option Addr} {n c : Nat} {ss : List ByteArray} (h : IsStrs w a n c ss) (hb : Below w.heap.size w w') : IsStrs w' a n c ss := by
  obtain ⟨h1, h2, h3, h4, h5⟩ := h
  refine ⟨h1, h2, h3, h4, fun h => ?_⟩
  obtain ⟨b, off, e, hlt, hc⟩ := h5 h
  exact ⟨b, off, e, Nat.lt_of_lt_of_le hlt hb.size, fun i hi => (hb.cell (p := ⟨b, off + i, none⟩) hlt).trans (hc i hi)⟩

/-- A copy of the call's own. -/
def Cl (w : World) (v : Value) (ss : List ByteArray) : Prop :=
  ∃ a c, v = .slice a ss.length c ∧ (0 < ss.length → ∃ g, a = some ⟨g, 0, none⟩ ∧ g < w.heap.size ∧ ∀ i (h : i < ss.length), w.cell? ⟨g, i, none⟩ = some (.string ss[i]))

theorem Cl.below {w w' : World} {v : Value} {ss : List ByteArray} (h : Cl w v ss) (hb : Below w.heap.size w w') : Cl w' v ss := by
  obtain ⟨a, c, e, h5⟩ := h
  refine ⟨a, c, e, fun h => ?_⟩
  obtain ⟨g, e, hlt, hc⟩ := h5 h
  exact ⟨g, e, Nat.lt_of_lt_of_le hlt hb.size, fun i hi => (hb.cell (p := ⟨g, i, none⟩) hlt).trans (hc i hi)⟩

theorem made_row {w1 : World} {B g n : Nat} {xs : List Value} (h : w1.ownsRow B 9 1 (.slice (some ⟨g, 0, none⟩) n n) n xs) : ∃ cur : List Value, w1.heap[g]? = some (.cells cur.toArray 9 (0, 0)) ∧ cur.length = n := by
  rcases h.2 with ⟨h0, _⟩ | ⟨g', cap, cur, hv, _, hh, _, _, hsz, _⟩
  · cases h0
  · simp only [Value.slice.injEq, Option.some.injEq, Addr.mk.injEq] at hv
    obtain ⟨⟨rfl, _⟩, _, rfl⟩ := hv
    exact ⟨cur.toList, by simpa using hh, by simpa using hsz⟩

set_option maxHeartbeats 4000000 in
set_option maxRecDepth 100000 in
theorem clone_walk (a : Option Addr) (n c : Nat) (ss : List ByteArray) (w : World) (h : IsStrs w a n c ss) (hn : n ≤ 65536) :
    Calls Try.prog 16 #[.slice a n c] w fun e w' => (∃ v, e = .returned v ∧ Cl w' v ss) ∧ Below w.heap.size w w' := by
  obtain ⟨hlen, _, hss, hnil, hcs⟩ := h
  have hq := fun wx => Lib.run_eql_slice_nil (P := Try.prog) wx 29 9 a n c 0 0 Try.underlying29
  cases a with
  | none =>
    obtain ⟨rfl, rfl⟩ := hnil rfl
    simp only [Option.isNone_none] at hq
    clear hnil hcs
    go_enter Try.func16, Try.ntmps16
    go_wp2
    go_ret
    exact ⟨⟨_, rfl, none, 0, by rw [hlen]; rfl, fun h => by omega⟩, Below.refl _ _⟩
  | some ad =>
    simp only [Option.isNone_some] at hq
    obtain ⟨i0, hi, hz0, hz1, hz2⟩ := info_parts Try.info9
    have hb1 : i0.bytes * n ≤ 281474976710656 := by rw [hz2]; omega
    have HC := Lib.hid hcs
    have HS := Lib.hid hss
    clear hnil hcs hss
    go_enter Try.func16, Try.ntmps16
    go_wp2_with (first | (at_make; refine wpList_make_full _ rfl _ _ 29 rfl w.heap.size 9 i0 (.string ByteArray.empty) 1 Try.underlying29 hi hz0 hz1 _ _ _ _ n rfl rfl rfl rfl hb1 (by unfold maxLen; omega) (Nat.le_refl _) ?_; intro w1 hown hgrow; obtain ⟨cur, hcur, hlc⟩ := made_row hown; have hbel : Below w.heap.size w w1 := (Below.refl _ _).grown hgrow (Nat.le_refl _) (fun j hj => by cases hj); have HCU := Lib.hid hcur; clear hown hgrow hcur) | (refine wpList_copy_splice rfl _ _ 29 29 rfl 9 Try.underlying29 Try.size9 (some ⟨w.heap.size, 0, none⟩) (some ad) n n n c rfl rfl w.heap.size 0 cur 9 HCU.out (ss.map Value.string) ?k1 ?k2 ?k3 ?k4 w.heap.size w hbel (Nat.le_refl _) ?_))
    case k1 => simp [hlen]
    case k2 =>
      intro hp
      obtain ⟨b, off, e, hlt, hc⟩ := HC.out (by simpa [hlen] using hp)
      obtain rfl := Option.some.inj e
      intro j v hj
      obtain ⟨hj', hjv⟩ := List.getElem?_eq_some_iff.1 hj
      rw [← hjv, Addr.add_lit]
      exact (hbel.cell (p := ⟨b, off + j, none⟩) hlt).trans (hc j hj')
    case k3 => simp; omega
    case k4 => intro v hv; simp at hv; obtain ⟨x, _, rfl⟩ := hv; rfl
    intro w2 hw2 hbel2
    have hsp : splice cur 0 (ss.map Value.string) = ss.map Value.string := by simp [splice]; omega
    rw [hsp] at hw2
    go_wp2
    go_ret
    refine ⟨⟨_, rfl, some ⟨w.heap.size, 0, none⟩, n, by rw [hlen]; rfl, fun hp => ⟨w.heap.size, rfl, lt_of_block hw2.out, fun i hi => ?_⟩⟩, hbel2⟩
    rw [Lib.cell_of_heap hw2.out]
    simp [hi]
end Go.Proofs.Qxb6603108a
