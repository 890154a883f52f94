import Derived.Test.Qxb6602280aDoorParse
import Derived.Test.Qxb6602280aDoorPlain
import Derived.WalkSpells
import Derived.Laws.BitsLemmas
import Derived.Laws.IdiomStrings
import Derived.Test.Qxb6602280aDoorShelf
namespace Go.Proofs.Qxb6602280aDoor
open Go.RowKit Plain

theorem Tryd.info5 : (Tryd.prog.info? 5).map (fun i => (i.zero, i.size, i.bytes)) = some (some (.int .u8 0), 1, 1) := by kernel_rfl

theorem cells_hit (ev : Bool) (s : ByteArray) (k : Nat) (hk : k < s.size) (h : hit ev s[k] = true) :
    Lib.byteCells (enc ev (s.data.toList.take (k + 1))) = Lib.byteCells (enc ev (s.data.toList.take k)) ++ [.int .u8 92, .int .u8 (48 + (s[k].toNat : Int) / 64), .int .u8 (48 + (s[k].toNat : Int) / 8 % 8), .int .u8 (48 + (s[k].toNat : Int) % 8)] := by
  have hl : k < s.data.toList.length := by simpa using hk
  rw [enc_snoc ev _ k hl, Lib.byteCells_append]
  have e : s.data.toList[k] = s[k] := rfl
  rw [e]
  have h1 := (o1_nat s[k]).1
  have h2 := (o2_nat s[k]).1
  have h3 := (o3_nat s[k]).1
  simp only [esc, h, if_true, Lib.byteCells, List.map_cons, List.map_nil, h1, h2, h3]
  simp

theorem cells_miss (ev : Bool) (s : ByteArray) (k : Nat) (hk : k < s.size) (h : hit ev s[k] = false) :
    Lib.byteCells (enc ev (s.data.toList.take (k + 1))) = Lib.byteCells (enc ev (s.data.toList.take k)) ++ [.int .u8 (s[k].toNat : Int)] := by
  have hl : k < s.data.toList.length := by simpa using hk
  rw [enc_snoc ev _ k hl, Lib.byteCells_append]
  have e : s.data.toList[k] = s[k] := rfl
  rw [e]
  simp [esc, h, Lib.byteCells]

theorem hit_cases (ev : Bool) (c : UInt8) : (hit ev c = true ∧ (ev = true ∨ (ev = false ∧ ((c.toNat : Int) == 32) = true) ∨ (ev = false ∧ ((c.toNat : Int) == 32) = false ∧ ((c.toNat : Int) == 9) = true) ∨
    (ev = false ∧ ((c.toNat : Int) == 32) = false ∧ ((c.toNat : Int) == 9) = false ∧ ((c.toNat : Int) == 10) = true) ∨ (ev = false ∧ ((c.toNat : Int) == 32) = false ∧ ((c.toNat : Int) == 9) = false ∧ ((c.toNat : Int) == 10) = false ∧ ((c.toNat : Int) == 92) = true))) ∨
    (hit ev c = false ∧ ev = false ∧ ((c.toNat : Int) == 32) = false ∧ ((c.toNat : Int) == 9) = false ∧ ((c.toNat : Int) == 10) = false ∧ ((c.toNat : Int) == 92) = false) := by
  have e : ∀ n : Nat, n < 256 → (c == UInt8.ofNat n) = ((c.toNat : Int) == (n : Int)) := fun n hn => by
    rw [Bool.eq_iff_iff]
    simp only [beq_iff_eq]
    constructor
    · intro h; rw [h, UInt8.toNat_ofNat']; omega
    · intro h; apply UInt8.toNat_inj.1; rw [UInt8.toNat_ofNat']; omega
  have h1 := e 32 (by decide)
  have h2 := e 9 (by decide)
  have h3 := e 10 (by decide)
  have h4 := e 92 (by decide)
  have hh : hit ev c = (ev || ((c.toNat : Int) == 32) || ((c.toNat : Int) == 9) || ((c.toNat : Int) == 10) || ((c.toNat : Int) == 92)) := by
    unfold hit
    show (ev || c == UInt8.ofNat 32 || c == UInt8.ofNat 9 || c == UInt8.ofNat 10 || c == UInt8.ofNat 92) = _
    rw [h1, h2, h3, h4]; rfl
  rw [hh]
  cases ev <;> cases ((c.toNat : Int) == 32) <;> cases ((c.toNat : Int) == 9) <;> cases ((c.toNat : Int) == 10) <;> cases ((c.toNat : Int) == 92) <;> simp

set_option maxHeartbeats 8000000 in
set_option maxRecDepth 100000 in
theorem law_small (s : ByteArray) (ev : Bool) (hs : s.size ≤ 262144) (w : World)
    (HU : Hid (∀ W : World, Calls Tryd.prog 8 #[.string ⟨(enc ev s.data.toList).toArray⟩] W fun e w' => e = .returned (.string s) ∧ Below W.heap.size W w')) :
    Calls Tryd.prog 3 #[.string s, .bool ev] w fun e w' => e = .returned (.bool true) ∧ Below w.heap.size w w' := by
  obtain ⟨i0, hi, hz0, hz1, hz2⟩ := info_parts Tryd.info5
  have hd0 : decide ((262144 : Int) < (s.size : Int)) = false := by simp; omega
  have hb1 : i0.bytes * (4 * s.size) ≤ 281474976710656 := by rw [hz2]; omega
  go_enter Tryd.func3, Tryd.ntmps3
  go_wp2_with (first | (at_make; refine wpList_make_own _ rfl _ _ 23 rfl w.heap.size 5 i0 (.int .u8 0) 1 Tryd.underlying23 hi hz0 hz1 _ _ _ (4 * s.size) rfl rfl (by omega) hb1 (by unfold maxLen; omega) (Nat.le_refl _) ?_; intro w1 hown hgrow) | go_in)
  have hbel : Below w.heap.size w w1 := (Below.refl _ _).grown hgrow (Nat.le_refl _) (fun j hj => by cases hj)
  clear hgrow
  go_loopw [5, 6] (fun v i wr => ∃ k : Nat, k ≤ s.size ∧ i = .int .i64 k ∧ wr.ownsRow w.heap.size 5 1 v (pos ev s.data.toList k) (Lib.byteCells (enc ev (s.data.toList.take k))) ∧ Below w.heap.size w wr) (fun _ i _ => s.size - (intOf i).toNat)
  case atStart => exact ⟨0, Nat.zero_le _, rfl, by simpa [pos_zero, enc, Lib.byteCells] using hown, hbel⟩
  case round =>
    obtain ⟨k, hk, rfl, hownk, hbelk⟩ := hrel
    have hp4 := pos_le4 ev s.data.toList k
    have hsz := hbelk.size
    clear hown hbel hb1
    by_cases hlt : k < s.size
    · have hc0 : (0 : Int) ≤ (s[k].toNat : Int) := by omega
      have hc1 : (s[k].toNat : Int) < 256 := by have := s[k].toNat_lt; omega
      have e2 : bits .and .u8 ((s[k].toNat : Int) / 8) 7 = (s[k].toNat : Int) / 8 % 8 := u8_and7 _ (by omega) (by omega)
      have e3 : bits .and .u8 (s[k].toNat : Int) 7 = (s[k].toNat : Int) % 8 := u8_and7 _ hc0 hc1
      have hll : k < s.data.toList.length := by simpa using hlt
      have HK := Lib.hid hownk
      rcases hit_cases ev s[k] with ⟨hh, hcs⟩ | ⟨hh, rfl, q1, q2, q3, q4⟩
      · have HC := Lib.hid (And.intro (cells_hit ev s k hlt hh) (at_hit ev s.data.toList k hll hh).1)
        clear hh hownk
        rcases hcs with rfl | ⟨rfl, q1⟩ | ⟨rfl, q1, q2⟩ | ⟨rfl, q1, q2, q3⟩ | ⟨rfl, q1, q2, q3, q4⟩
        all_goals
          go_wp2_with (at_builtin; go_must (refine wpList_append_own _ rfl _ _ 23 rfl w.heap.size 5 i0 (.int .u8 0) 1 1 Tryd.underlying23 hi hz0 hz1 hz2 rfl (by decide) _ _ _ rfl (HK.out.alloc _) ⟨wr.heap.size, 0, none⟩ 4 4 [.int .u8 92, .int .u8 (48 + (s[k].toNat : Int) / 64), .int .u8 (48 + (s[k].toNat : Int) / 8 % 8), .int .u8 (48 + (s[k].toNat : Int) % 8)] rfl rfl ?_ ?_ ?_ ?_ ?_ ?_))
          · intro j u hj
            match j, hj with
            | 0, hj => simp at hj; subst hj; simp [Addr.add]
            | 1, hj => simp at hj; subst hj; simp [Addr.add]
            | 2, hj => simp at hj; subst hj; simp [Addr.add]
            | 3, hj => simp at hj; subst hj; simp [Addr.add]
          · intro u hu
            simp at hu
            rcases hu with rfl | rfl | rfl | rfl <;> rfl
          · unfold maxLen; omega
          · omega
          · simp; omega
          · intro v' w2 hown' hgrow' _
            have hb2 := (hbelk.alloc hsz (.cells #[.int .u8 92, .int .u8 (48 + (s[k].toNat : Int) / 64), .int .u8 (48 + (s[k].toNat : Int) / 8 % 8), .int .u8 (48 + (s[k].toNat : Int) % 8)] 5)).grown hgrow' (by simp; omega) (fun j hj => (HK.out.lt j hj).1)
            have HO := Lib.hid hown'
            clear hgrow' hown' HK
            go_wp2
            go_roundw
            case rel => exact ⟨k + 1, by omega, by go_num, by rw [HC.out.1, HC.out.2]; exact HO.out, hb2⟩
            case measure => simp [intOf]; omega
      · have HC := Lib.hid (And.intro (cells_miss false s k hlt hh) (at_miss false s.data.toList k hll hh).1)
        clear hh hownk
        go_wp2_with (at_builtin; go_must (refine wpList_append_own _ rfl _ _ 23 rfl w.heap.size 5 i0 (.int .u8 0) 1 1 Tryd.underlying23 hi hz0 hz1 hz2 rfl (by decide) _ _ _ rfl (HK.out.alloc _) ⟨wr.heap.size, 0, none⟩ 1 1 [.int .u8 (s[k].toNat : Int)] rfl rfl ?_ ?_ ?_ ?_ ?_ ?_))
        · intro j u hj
          match j, hj with
          | 0, hj => simp at hj; subst hj; simp [Addr.add]
        · intro u hu
          simp at hu
          rcases hu with rfl
          rfl
        · unfold maxLen; omega
        · omega
        · simp; omega
        · intro v' w2 hown' hgrow' _
          have hb2 := (hbelk.alloc hsz (.cells #[.int .u8 (s[k].toNat : Int)] 5)).grown hgrow' (by simp; omega) (fun j hj => (HK.out.lt j hj).1)
          have HO := Lib.hid hown'
          clear hgrow' hown' HK
          go_wp2
          go_roundw
          case rel => exact ⟨k + 1, by omega, by go_num, by rw [HC.out.1, HC.out.2]; exact HO.out, hb2⟩
          case measure => simp [intOf]; omega
    · obtain rfl : k = s.size := by omega
      have hlen : s.data.toList.length = s.size := by simp
      have ht : s.data.toList.take s.size = s.data.toList := by rw [← hlen, List.take_length]
      have hpe : pos ev s.data.toList s.size = (enc ev s.data.toList).length := by rw [← hlen]; exact pos_end ev _
      rw [ht, hpe] at hownk
      have hown0 := hownk
      have hcv : ∀ W : World, W = wr → (convert 23 9 u5).run Tryd.prog W = .ok (.string ⟨(enc ev s.data.toList).toArray⟩) W := by
        rintro W rfl
        rcases hownk.2 with ⟨rfl, h0⟩ | ⟨g, cap, cur, rfl, hg, hh, hnc, hcp, hcs, htake⟩
        · have : enc ev s.data.toList = [] := List.length_eq_zero_iff.1 h0
          rw [this, run_convert_bytes_string W 23 9 5 none 0 0 Tryd.underlying23 Tryd.underlying5 Tryd.underlying9]
          rfl
        · exact run_convert_bytes_back (P := Tryd.prog) W 23 9 5 ⟨g, 0, none⟩ cap (enc ev s.data.toList) Tryd.underlying23 Tryd.underlying5 Tryd.underlying9 (fun j hj => by
            rw [Addr.add_lit, Nat.zero_add, hown0.cellAt j (by omega)]
            simp [Lib.byteCells, hj])
      have hcv2 := hcv wr rfl
      clear hcv hownk hown0 ht hpe hp4 hk
      go_wp2_with fail
      refine (HU.out _).mono ?_
      rintro e w2 ⟨rfl, hb⟩
      go_wp2
      go_ret
      exact ⟨rfl, hbelk.trans (hb.mono hsz)⟩
end Go.Proofs.Qxb6602280aDoor
