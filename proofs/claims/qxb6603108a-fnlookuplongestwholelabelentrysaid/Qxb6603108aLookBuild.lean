import Derived.Test.Qxb6603108aLookFind
import Derived.RegionTactic
import Derived.ChangeAlike
namespace Go.Proofs.Qxb6603108a
open Go.RowKit LookP Go.Maps Go.WideMaps

theorem run_makeMap_hint (n : Int) (w : World) : (Instr.makeMap 33 (some (.int .i64 n))).run Try.prog w = .ok (.map (some w.heap.size)) (w.alloc (.map #[] 0)) := by
  simp [Instr.makeMap, run_underlying Try.underlying33, asInt, asIntOf]

/-- the registry as a datum -/
def Dm (kv : List (ByteArray × ByteArray)) : DataW Unit := kv.foldl (fun m p => m.put (.string p.1.data.toList) (.lit (.string p.2.data.toList))) (.map [])

theorem Dm_snoc (kv : List (ByteArray × ByteArray)) (k v : ByteArray) : Dm (kv ++ [(k, v)]) = (Dm kv).put (.string k.data.toList) (.lit (.string v.data.toList)) := by simp [Dm, List.foldl_append]

theorem Dm_isMap (kv : List (ByteArray × ByteArray)) : IsMap (Dm kv) := by
  have : ∀ (l : List (ByteArray × ByteArray)) (m : DataW Unit), IsMap m → IsMap (l.foldl (fun m p => m.put (.string p.1.data.toList) (.lit (.string p.2.data.toList))) m) := by
    intro l
    induction l with
    | nil => exact fun m h => h
    | cons p r ih => exact fun m h => ih _ (h.put _ _)
  exact this kv _ isMap_empty

theorem list_snoc {α : Type} {P : List α → Prop} (h0 : P []) (hs : ∀ l a, P l → P (l ++ [a])) (l : List α) : P l := by
  have : ∀ r : List α, P r.reverse := by
    intro r
    induction r with
    | nil => exact h0
    | cons a r ih => rw [List.reverse_cons]; exact hs _ _ ih
  have h := this l.reverse
  rw [List.reverse_reverse] at h
  exact h

theorem Dm_has (kv : List (ByteArray × ByteArray)) (s : List UInt8) : Maps.has (Dm kv) (.string s) = (LookP.look kv s).isSome := by
  induction kv using list_snoc with
  | h0 => rfl
  | hs l p ih =>
    obtain ⟨k, v⟩ := p
    rw [Dm_snoc, look_snoc]
    by_cases h : k.data.toList = s
    · subst h; rw [has_put_same (Dm_isMap l) (k := .string k.data.toList) (by trivial)]; simp
    · rw [has_put_other (by intro e; exact h (by injection e with e; exact e.symm)), ih]; simp [h]

theorem Dm_at (kv : List (ByteArray × ByteArray)) (s : List UInt8) : (Dm kv).atKey (.string s) (.lit (.string [])) = .lit (.string ((LookP.look kv s).getD ByteArray.empty).data.toList) := by
  induction kv using list_snoc with
  | h0 => rfl
  | hs l p ih =>
    obtain ⟨k, v⟩ := p
    rw [Dm_snoc, look_snoc]
    by_cases h : k.data.toList = s
    · subst h; rw [atKey_put_same (Dm_isMap l) (k := .string k.data.toList) (by trivial)]; simp
    · rw [atKey_put_other (by intro e; exact h (by injection e with e; exact e.symm)), ih]; simp [h]

theorem zero9 (w : World) : (zeroValue 9).run Try.prog w = .ok (.string ByteArray.empty) w := by kernel_rfl

/-- from the owned map to the look-ups -/
theorem looks_of {kv : List (ByteArray × ByteArray)} {bm n N : Nat} {w : World} (h : w.ownsMap Try.prog 9 (plainElem Try.prog 9) bm n (Dm kv)) (hN : N ≤ maxLen) : Looks kv bm N w := by
  intro s hs
  obtain ⟨v, ps, hrun, hv⟩ := h.look_ok (string_keyed Try.underlying9) Try.underlying33 (zero9 w) (plainElem_string Try.underlying9 (by decide)) (keyOf_string_mk Try.underlying9 (s := s) (by omega))
  rw [show ByteArray.empty.data.toList = [] from rfl, Dm_at] at hv
  obtain ⟨x, rfl, hx, _⟩ := plainElem_string_inv Try.underlying9 hv
  have hx' : x = (LookP.look kv s.data.toList).getD ByteArray.empty := by
    simp only [Prod.mk.injEq, DataW.lit.injEq, Lit.string.injEq] at hx
    exact (WideShapes.bytes_inj hx.1).symm
  rw [Dm_has, hx'] at hrun
  exact hrun

set_option maxHeartbeats 4000000 in
set_option maxRecDepth 100000 in
theorem build_some (n ck cv gk gv : Nat) (ks vs : List ByteArray) (hk : ks.length = n) (hv : vs.length = n) (hn : n ≤ 65536) (hks : ∀ x ∈ ks, x.size ≤ maxLen) (hvs : ∀ x ∈ vs, x.size ≤ maxLen) (w : World)
    (hgk : gk < w.heap.size) (hgv : gv < w.heap.size)
    (hck : ∀ i (h : i < ks.length), w.cell? ⟨gk, i, none⟩ = some (.string ks[i])) (hcv : ∀ i (h : i < vs.length), w.cell? ⟨gv, i, none⟩ = some (.string vs[i])) :
    Calls Try.prog 17 #[.slice (some ⟨gk, 0, none⟩) n ck, .slice (some ⟨gv, 0, none⟩) n cv] w fun e w' => e = .returned (.map (some w.heap.size)) ∧
      w'.ownsMap Try.prog 9 (plainElem Try.prog 9) w.heap.size n (Dm (ks.zip vs)) ∧ Below w.heap.size w w' := by
  have hmm := run_makeMap_hint
  go_enter Try.func17, Try.ntmps17
  go_wp2
  go_loopw [6] (fun i wr => ∃ k : Nat, k ≤ n ∧ i = .int .i64 k ∧ wr.ownsMap Try.prog 9 (plainElem Try.prog 9) w.heap.size k (Dm ((ks.zip vs).take k)) ∧ Below w.heap.size w wr) (fun i _ => n - (intOf i).toNat)
  case atStart => exact ⟨0, Nat.zero_le _, rfl, World.ownsMap_made _ _ _ _, (Below.refl _ _).alloc (Nat.le_refl _) _⟩
  case round =>
    obtain ⟨k, hkn, rfl, hown, hbel⟩ := hrel
    by_cases hlt : k < n
    · have c1 : wr.cell? ⟨gk, k, none⟩ = some (.string (ks[k]'(by omega))) := (hbel.cell (p := ⟨gk, k, none⟩) hgk).trans (hck k (by omega))
      have c2 : wr.cell? ⟨gv, k, none⟩ = some (.string (vs[k]'(by omega))) := (hbel.cell (p := ⟨gv, k, none⟩) hgv).trans (hcv k (by omega))
      have i1 : (0 : Int) ≤ (k : Int) := by omega
      have i2 : (k : Int) < (n : Int) := by omega
      obtain ⟨w1, hst, hown1, hturn⟩ := (hown.drew).store (string_keyed Try.underlying9) Try.underlying33 (by unfold maxLen; omega) (keyOf_string_mk Try.underlying9 (s := ks[k]'(by omega)) (hks _ (List.getElem_mem _))) (plainElem_string Try.underlying9 (s := vs[k]'(by omega)) (hvs _ (List.getElem_mem _)))
      have e1 : (ks.zip vs).take (k + 1) = (ks.zip vs).take k ++ [(ks[k]'(by omega), vs[k]'(by omega))] := by
        rw [List.take_succ_eq_append_getElem (by simp; omega)]; simp
      have HO := Lib.hid (show w1.ownsMap Try.prog 9 (plainElem Try.prog 9) w.heap.size (k + 1) (Dm ((ks.zip vs).take (k + 1))) by rw [e1, Dm_snoc]; exact hown1)
      have HB := Lib.hid ((hbel.drew).grown hturn.grown (by have := hbel.size; simpa using this) (fun j hj => by cases hj; exact Nat.le_refl _))
      clear hown hown1 hturn hbel e1 hck hcv
      generalize ks[k]'(by omega) = kk at c1 hst
      generalize vs[k]'(by omega) = vv at c2 hst
      go_wp2
      go_region
      all_goals
        go_wp2
        go_roundw
        case rel => exact ⟨k + 1, by omega, by go_num, HO.out, HB.out⟩
        case measure => simp [intOf]; omega
    · obtain rfl : k = n := by omega
      have e1 : (ks.zip vs).take k = ks.zip vs := List.take_of_length_le (by simp; omega)
      rw [e1] at hown
      have HO := Lib.hid hown
      have HB := Lib.hid hbel
      clear hown hbel e1 hck hcv
      go_wp2
      go_ret
      exact ⟨rfl, HO.out, HB.out⟩

set_option maxHeartbeats 4000000 in
set_option maxRecDepth 100000 in
theorem build_none (ak av : Option Addr) (ck cv : Nat) (w : World) :
    Calls Try.prog 17 #[.slice ak 0 ck, .slice av 0 cv] w fun e w' => e = .returned (.map (some w.heap.size)) ∧
      w'.ownsMap Try.prog 9 (plainElem Try.prog 9) w.heap.size 0 (Dm []) ∧ Below w.heap.size w w' := by
  have hmm := run_makeMap_hint
  go_enter Try.func17, Try.ntmps17
  go_wp2
  refine wp_loop_rounds 1 ?_
  rw [rounds_succ]
  go_wp2
  go_ret
  exact ⟨rfl, World.ownsMap_made _ _ _ _, (Below.refl _ _).alloc (Nat.le_refl _) _⟩
end Go.Proofs.Qxb6603108a
