import Derived.Test.Qxb6603108aSegEnc
import Derived.Laws.IdiomStrings
import Derived.Lib.Strings
import Derived.Laws.BitsAllLaws
namespace Go.Proofs.Qxb6603108a
open Go.RowKit Plain

theorem Try.info5 : (Try.prog.info? 5).map (fun i => (i.zero, i.size, i.bytes)) = some (some (.int .u8 0), 1, 1) := by kernel_rfl

theorem getD_ba (l : List UInt8) (i : Nat) (h : i < (ByteArray.mk l.toArray).size) : (ByteArray.mk l.toArray)[i] = l.getD i 0 := by
  have h' : i < l.length := by simpa [ByteArray.size] using h
  show l.toArray[i] = _
  simp [List.getD, h']

theorem cells_snoc (x : List UInt8) (k : Nat) (hk : k < x.length) : Lib.byteCells (x.take (k + 1)) = Lib.byteCells (x.take k) ++ [.int .u8 (x[k].toNat : Int)] := by
  rw [List.take_succ_eq_append_getElem hk, Lib.byteCells_append]; rfl

theorem or_fin : ∀ a b : Fin 16, (a.val * 16 ||| b.val) = a.val * 16 + b.val := by decide +kernel
theorem or_nib (c : Nat) (hc : c < 256) : bits .or .u8 ((c : Int) / 16 * 16) ((c : Int) % 16) = (c : Int) := by
  have h := u8_or_nat (c / 16 * 16) (c % 16) (by omega) (by omega)
  have hf : (c / 16 * 16 ||| c % 16) = c / 16 * 16 + c % 16 := or_fin ⟨c / 16, by omega⟩ ⟨c % 16, by omega⟩
  rw [hf] at h
  rw [show (c : Int) / 16 * 16 = ((c / 16 * 16 : Nat) : Int) by omega, show (c : Int) % 16 = ((c % 16 : Nat) : Int) by omega, h]
  omega

set_option maxHeartbeats 8000000 in
set_option maxRecDepth 100000 in
theorem dec_small (s : ByteArray) (hs : s.size ≤ 1048576) (w : World) :
    Calls Try.prog 3 #[.string s] w fun e w' => e = .returned (.bool true) ∧ Below w.heap.size w w' := by
  obtain ⟨i0, hi, hz0, hz1, hz2⟩ := info_parts Try.info5
  obtain ⟨t, ht⟩ : ∃ t : ByteArray, t = ⟨(enc s.data.toList).toArray⟩ := ⟨_, rfl⟩
  have hsl : s.data.toList.length = s.size := by simp
  have htz : t.size = (enc s.data.toList).length := by rw [ht]; simp [ByteArray.size]
  have hget : ∀ i (h : i < t.size), t[i] = (enc s.data.toList).getD i 0 := by subst ht; exact fun i h => getD_ba _ i h
  have hel := enc_len s.data.toList
  have HW := Lib.hid (fun W => zzsegment_walk s hs W)
  rw [← ht] at HW
  have HT := Lib.hid (And.intro htz (And.intro hget hsl))
  have htb : t.size ≤ 3 * s.size := by omega
  have hd0 : decide ((1048576 : Int) < (s.size : Int)) = false := by simp; omega
  have hd1 : decide ((3 * (s.size : Int)) < (t.size : Int)) = false := by simp; omega
  have hb1 : i0.bytes * t.size ≤ 281474976710656 := by rw [hz2]; omega
  clear ht htz hget hsl hel
  go_enter Try.func3, Try.ntmps3
  go_wp2_with (first | (go_at_call 9; refine (HW.out _).mono ?_; rintro e w1 ⟨rfl, hb0⟩; have hsz0 := hb0.size) | (at_make; refine wpList_make_own _ rfl _ _ 24 rfl w.heap.size 5 i0 (.int .u8 0) 1 Try.underlying24 hi hz0 hz1 _ _ _ t.size rfl rfl (by omega) hb1 (by unfold maxLen; omega) hsz0 ?_; intro w2 hown hgrow) | go_in)
  have hbel : Below w.heap.size w w2 := hb0.grown hgrow hsz0 (fun j hj => by cases hj)
  clear hgrow hb0 hsz0 hb1
  go_loopw [4, 5] (fun v i wr => ∃ k : Nat, k ≤ s.size ∧ i = .int .i64 (pos s.data.toList k : Nat) ∧ wr.ownsRow w.heap.size 5 1 v k (Lib.byteCells (s.data.toList.take k)) ∧ Below w.heap.size w wr) (fun _ i _ => t.size - (intOf i).toNat)
  case atStart => exact ⟨0, Nat.zero_le _, by rw [pos_zero]; rfl, by simpa [Lib.byteCells] using hown, hbel⟩
  case round =>
    obtain ⟨k, hk, rfl, hownk, hbelk⟩ := hrel
    have hp3 := pos_le3 s.data.toList k
    have hsz := hbelk.size
    have htz := HT.out.1
    have hsl := HT.out.2.2
    clear hown hbel
    generalize hp : pos s.data.toList k = p at *
    by_cases hlt : k < s.size
    · have hll : k < s.data.toList.length := by omega
      have HK := Lib.hid hownk
      have HC := Lib.hid (cells_snoc s.data.toList k hll)
      have hc256 : s.data.toList[k].toNat < 256 := s.data.toList[k].toNat_lt
      cases hh : seg s.data.toList[k] with
      | true =>
        obtain ⟨p1, p2, g0, g1⟩ := at_miss s.data.toList k hll hh
        rw [hp] at p1 p2 g0
        have hi1 : p < t.size := by omega
        have e0 : t[p] = s.data.toList[k] := (HT.out.2.1 p hi1).trans g0
        have hne : ((t[p].toNat : Int) != 37) = true := by
          rw [e0, bne_iff_ne]; intro h; exact g1 (by apply UInt8.toNat_inj.1; show s.data.toList[k].toNat = 37; omega)
        have HP := Lib.hid (And.intro p1 e0)
        clear p1 p2 g0 g1 hh e0 htz hsl hp hownk
        generalize s.data.toList[k] = x at HC HP hc256
        go_wp2_with (at_builtin; go_must (refine wpList_append_own _ rfl _ _ 24 rfl w.heap.size 5 i0 (.int .u8 0) 1 1 Try.underlying24 hi hz0 hz1 hz2 rfl (by decide) _ _ _ rfl (HK.out.alloc _) ⟨wr.heap.size, 0, none⟩ 1 1 [.int .u8 (t[p].toNat : Int)] rfl rfl ?_ ?_ ?_ ?_ ?_ ?_))
        · intro j u hj
          match j, hj with
          | 0, hj => simp at hj; subst hj; simp [Addr.add]
        · intro u hu
          simp at hu
          rcases hu with rfl
          rfl
        · unfold maxLen; omega
        · omega
        · simp; omega
        · intro v' w3 hown' hgrow' _
          have hb2 := (hbelk.alloc hsz (.cells #[.int .u8 (t[p].toNat : Int)] 5)).grown hgrow' (by simp; omega) (fun j hj => (HK.out.lt j hj).1)
          rw [HP.out.2] at hown'
          have HO := Lib.hid hown'
          clear hgrow' hown' HK
          go_wp2
          go_roundw
          case rel => exact ⟨k + 1, by omega, by rw [HP.out.1]; go_num, by rw [HC.out]; exact HO.out, hb2⟩
          case measure => simp [intOf]; omega
      | false =>
        obtain ⟨p1, p2, g0, g1, g2⟩ := at_hit s.data.toList k hll hh
        rw [hp] at p1 p2 g0 g1 g2
        have hi0 : p < t.size := by omega
        have hi1 : p + 1 < t.size := by omega
        have hi2 : p + 2 < t.size := by omega
        have e0 : t[p] = 37 := (HT.out.2.1 p hi0).trans g0
        have e1 : t[p + 1] = h1 s.data.toList[k] := (HT.out.2.1 (p + 1) hi1).trans g1
        have e2 : t[p + 2] = h2 s.data.toList[k] := (HT.out.2.1 (p + 2) hi2).trans g2
        have hne : ((t[p].toNat : Int) != 37) = false := by rw [e0]; rfl
        have n1 : t[p + 1].toNat = hx (s.data.toList[k].toNat / 16) := by rw [e1, h1_nat]
        have n2 : t[p + 2].toNat = hx (s.data.toList[k].toNat % 16) := by rw [e2, h2_nat]
        have HP := Lib.hid (And.intro p1 (And.intro n1 n2))
        clear p1 p2 g0 g1 g2 hh e0 e1 e2 htz hsl hp n1 n2 hownk
        generalize s.data.toList[k] = x at HC HP hc256
        generalize hxv : x.toNat = xv at HC HP hc256
        have hor := or_nib xv hc256
        clear hxv
        go_wp2_with fail
        rw [HP.out.2.1]
        refine (hex_walk _ (by omega) _).mono ?_
        rintro e w3 ⟨rfl, hw⟩
        subst hw
        go_wp2_with fail
        rw [HP.out.2.2]
        refine (hex_walk _ (by omega) _).mono ?_
        rintro e w4 ⟨rfl, hw⟩
        subst hw
        go_wp2_with (at_builtin; go_must (refine wpList_append_own _ rfl _ _ 24 rfl w.heap.size 5 i0 (.int .u8 0) 1 1 Try.underlying24 hi hz0 hz1 hz2 rfl (by decide) _ _ _ rfl (HK.out.alloc _) ⟨w4.heap.size, 0, none⟩ 1 1 [.int .u8 (xv : Int)] rfl rfl ?_ ?_ ?_ ?_ ?_ ?_))
        · intro j u hj
          match j, hj with
          | 0, hj => simp at hj; subst hj; simp [Addr.add]
        · intro u hu
          simp at hu
          rcases hu with rfl
          rfl
        · unfold maxLen; omega
        · omega
        · simp; omega
        · intro v' w5 hown' hgrow' _
          have hb2 := (hbelk.alloc hsz (.cells #[.int .u8 (xv : Int)] 5)).grown hgrow' (by simp; omega) (fun j hj => (HK.out.lt j hj).1)
          have HO := Lib.hid hown'
          clear hgrow' hown' HK
          go_wp2
          go_roundw
          case rel => exact ⟨k + 1, by omega, by rw [HP.out.1]; go_num, by rw [HC.out]; exact HO.out, hb2⟩
          case measure => simp [intOf]; omega
    · obtain rfl : k = s.size := by omega
      have hpt : p = t.size := by rw [← hp, htz, ← hsl]; exact pos_end _
      subst hpt
      have htk : s.data.toList.take s.size = s.data.toList := List.take_of_length_le (by omega)
      rw [htk] at hownk
      have hown0 := hownk
      have hcv : ∀ W : World, W = wr → (convert 24 9 u4).run Try.prog W = .ok (.string s) W := by
        rintro W rfl
        have he : s = ⟨s.data.toList.toArray⟩ := by simp
        rcases hownk.2 with ⟨rfl, h0⟩ | ⟨g, cap, cur, rfl, hg, hh, hnc, hcp, hcs, htake⟩
        · have h1 : s.data.toList = [] := List.length_eq_zero_iff.1 (by omega)
          rw [run_convert_bytes_string W 24 9 5 none 0 0 Try.underlying24 Try.underlying5 Try.underlying9, he, h1]
          rfl
        · have h2 := run_convert_bytes_back (P := Try.prog) W 24 9 5 ⟨g, 0, none⟩ cap s.data.toList Try.underlying24 Try.underlying5 Try.underlying9 (fun j hj => by
            rw [Addr.add_lit, Nat.zero_add, hown0.cellAt j (by omega)]
            simp only [Lib.byteCells]
            rw [List.getElem?_map, List.getElem?_eq_getElem hj]
            rfl)
          rw [hsl] at h2
          rw [h2, ← he]
      have hcv2 := hcv wr rfl
      clear hcv hownk hown0 htk hp hp3 htz hsl
      go_wp2
      go_ret
      exact ⟨rfl, hbelk⟩
end Go.Proofs.Qxb6603108a
