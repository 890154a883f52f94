import Derived.Test.Qxb6603108aSegSmall
import Derived.Test.Qxb6603108aShelf
namespace Go.Proofs.Qxb6603108a
open Go.RowKit Plain

theorem cells_seg (x : List UInt8) (k : Nat) (hk : k < x.length) (h : seg x[k] = true) :
    Lib.byteCells (enc (x.take (k + 1))) = Lib.byteCells (enc (x.take k)) ++ [.int .u8 (x[k].toNat : Int)] := by
  rw [enc_snoc _ k hk, Lib.byteCells_append]
  simp [esc, h, Lib.byteCells]

theorem cells_esc (x : List UInt8) (k : Nat) (hk : k < x.length) (h : seg x[k] = false) :
    Lib.byteCells (enc (x.take (k + 1))) = ((Lib.byteCells (enc (x.take k)) ++ [.int .u8 37]) ++ [.int .u8 ((hx (x[k].toNat / 16) : Nat) : Int)]) ++ [.int .u8 ((hx (x[k].toNat % 16) : Nat) : Int)] := by
  rw [enc_snoc _ k hk, Lib.byteCells_append]
  simp [esc, h, Lib.byteCells, h1_nat, h2_nat]

theorem hex_at (d : Nat) (h : d < (ByteArray.mk #[48, 49, 50, 51, 52, 53, 54, 55, 56, 57, 65, 66, 67, 68, 69, 70]).size) :
    (ByteArray.mk #[48, 49, 50, 51, 52, 53, 54, 55, 56, 57, 65, 66, 67, 68, 69, 70])[d].toNat = hx d := by
  have h16 : d < 16 := h
  rw [← hexes_at d h16, List.getD_eq_getElem?_getD, List.getElem?_eq_getElem (show d < hexes.length from h16)]
  rfl

set_option maxHeartbeats 4000000 in
set_option maxRecDepth 100000 in
theorem segment_walk (s : ByteArray) (hs : s.size ≤ 1048576) (w : World) :
    Calls Try.prog 23 #[.string s] w fun e w' => e = .returned (.string ⟨(enc s.data.toList).toArray⟩) ∧ Below w.heap.size w w' := by
  go_enter Try.func23, Try.ntmps23
  go_wp2_with fail
  refine (Try.Builder_Grow_fresh w.heap.size w.heap.size s.size _ (Nat.le_refl _) ((MapKept.heap_alloc w _).1) (by simp) (by omega)).mono ?_
  rintro e w1 ⟨rfl, hbk, hb1⟩
  have hb0 : Below w.heap.size w w1 := ((Below.refl _ _).alloc (Nat.le_refl _) _).trans hb1
  clear hb1
  go_wp2
  go_loopw [4] (fun i wr => ∃ k : Nat, k ≤ s.size ∧ i = .int .i64 k ∧ Lib.IsBuilder 53 5 w.heap.size w.heap.size (Lib.byteCells (enc (s.data.toList.take k))) wr ∧ Below w.heap.size w wr) (fun i _ => s.size - (intOf i).toNat)
  case atStart => exact ⟨0, Nat.zero_le _, rfl, Or.inr (by simpa [enc, Lib.byteCells] using hbk), hb0⟩
  case round =>
    obtain ⟨k, hk, rfl, hbk', hbel⟩ := hrel
    have hsz := hbel.size
    clear hbk hb0
    by_cases hlt : k < s.size
    · have hll : k < s.data.toList.length := by simpa using hlt
      have hp3 := pos_le3 s.data.toList k
      have hlen : (Lib.byteCells (enc (s.data.toList.take k))).length + 3 ≤ 140737488355328 := by rw [Lib.byteCells_length]; unfold pos at hp3; omega
      have he : s.data.toList[k] = s[k] := rfl
      have hc := s[k].toNat_lt
      have e3 : bits .and .u8 (s[k].toNat : Int) 15 = (s[k].toNat : Int) % 16 := u8_and15 _ (by omega) (by omega)
      cases hh : seg s[k] with
      | true =>
        have HC := Lib.hid (cells_seg s.data.toList k hll (by rw [he]; exact hh))
        have HH := Lib.hid hh
        clear hh he
        go_wp2_with fail
        refine (seg_walk _ _).mono ?_
        rintro e w2 ⟨rfl, rfl⟩
        rw [HH.out]
        go_wp2_with fail
        refine (Try.Builder_WriteByte _ _ _ _ _ hbk' (by omega) hsz).mono ?_
        rintro e w3 ⟨rfl, hbk3, hb4⟩
        have hb5 := hbel.trans hb4
        clear hbk' hb4
        go_wp2
        go_roundw
        case rel => exact ⟨k + 1, by omega, by go_num, by rw [HC.out]; exact Or.inr hbk3, hb5⟩
        case measure => simp [intOf]; omega
      | false =>
        have HC := Lib.hid (cells_esc s.data.toList k hll (by rw [he]; exact hh))
        have HH := Lib.hid hh
        clear hh he
        go_wp2_with fail
        refine (seg_walk _ _).mono ?_
        rintro e w2 ⟨rfl, rfl⟩
        rw [HH.out]
        go_wp2_with fail
        refine (Try.Builder_WriteByte _ _ _ _ _ hbk' (by omega) hsz).mono ?_
        rintro e w3 ⟨rfl, hbk3, hb4⟩
        have hb5 := hbel.trans hb4
        have hsz3 := hb5.size
        clear hbk' hb4
        go_wp2_with fail
        refine (Try.Builder_WriteByte _ _ _ _ _ (Or.inr hbk3) (by simp; omega) hsz3).mono ?_
        rintro e w4 ⟨rfl, hbk4, hb6⟩
        have hb7 := hb5.trans hb6
        have hsz4 := hb7.size
        rw [hex_at] at hbk4
        clear hbk3 hb6 hb5
        go_wp2_with fail
        refine (Try.Builder_WriteByte _ _ _ _ _ (Or.inr hbk4) (by simp; omega) hsz4).mono ?_
        rintro e w5 ⟨rfl, hbk5, hb8⟩
        have hb9 := hb7.trans hb8
        rw [hex_at] at hbk5
        clear hbk4 hb8 hb7
        go_wp2
        go_roundw
        case rel => exact ⟨k + 1, by omega, by go_num, by rw [HC.out]; exact Or.inr hbk5, hb9⟩
        case measure => simp [intOf]; omega
    · obtain rfl : k = s.size := by omega
      have ht : s.data.toList.take s.size = s.data.toList := List.take_of_length_le (by simp)
      rw [ht] at hbk'
      clear ht
      go_wp2_with fail
      refine (Try.Builder_String_any _ _ _ _ hbk' hsz).mono ?_
      rintro e w3 ⟨rfl, hb4⟩
      go_wp2
      go_ret
      exact ⟨rfl, hbel.trans hb4⟩

set_option maxHeartbeats 1000000 in
set_option maxRecDepth 100000 in
theorem zzsegment_walk (s : ByteArray) (hs : s.size ≤ 1048576) (w : World) :
    Calls Try.prog 9 #[.string s] w fun e w' => e = .returned (.string ⟨(enc s.data.toList).toArray⟩) ∧ Below w.heap.size w w' := by
  have H := Lib.hid (segment_walk s hs w)
  generalize (enc s.data.toList).toArray = y at H ⊢
  go_enter Try.func9, Try.ntmps9
  go_wp2_with fail
  refine (H.out).mono ?_
  rintro e w2 ⟨rfl, hb⟩
  go_wp2
  go_ret
  exact ⟨rfl, hb⟩
end Go.Proofs.Qxb6603108a
