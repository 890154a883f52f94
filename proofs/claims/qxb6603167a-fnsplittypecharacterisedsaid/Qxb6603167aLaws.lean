import Derived.Test.Qxb6603167aSplit
namespace Go.Proofs.Qxb6603167a
open Go.RowKit

theorem app3 (a b : ByteArray) : (a ++ ⟨#[58]⟩ ++ b).data.toList = a.data.toList ++ 58 :: b.data.toList := by
  simp [ByteArray.data_append]

theorem size3 (a b : ByteArray) : (a ++ ⟨#[58]⟩ ++ b).size = a.size + 1 + b.size := by
  simp [ByteArray.size_append]; rfl

set_option maxHeartbeats 2000000 in
set_option maxRecDepth 100000 in
theorem char_some (s : ByteArray) (d : Nat) (hs : s.size ≤ 1048576) (hd : Lib.indexByte s.data.toList 58 = (d : Int)) (w : World) :
    Calls Try.prog 3 #[.string s] w fun e w' => e = .returned (.bool true) ∧ Below w.heap.size w w' := by
  obtain ⟨i1, i2, i3⟩ := indexByte_some _ _ _ hd
  have hlt : d < s.size := by simpa using i1
  have hp : (58 : UInt8) ∉ (s.extract 0 d).data.toList := by rw [Lib.extract_data]; simpa using i3
  have hz1 : (s.extract 0 d).size = d := by simp [ByteArray.size_extract]; omega
  have hz2 : (s.extract (d + 1) s.size).size = s.size - (d + 1) := by simp [ByteArray.size_extract]
  have H := Lib.hid (fun W => split_some s d (by omega) hd W)
  have HC := Lib.hid (fun W => colon_no (s.extract 0 d) (by omega) hp W)
  have ht : (s.extract 0 d).data.toList ++ 58 :: (s.extract (d + 1) s.size).data.toList = s.data.toList := by
    rw [Lib.extract_data, Lib.extract_to_end]; simpa using i2.symm
  generalize s.extract 0 d = a at H HC hz1 ht
  generalize s.extract (d + 1) s.size = b at H hz2 ht
  have heq : ((a ++ ⟨#[58]⟩ ++ b).toList == s.toList) = true := by rw [Lib.toList_data, Lib.toList_data, app3, ht]; simp
  clear hd i1 i2 i3 hp ht
  have hd0 : decide ((1048576 : Int) < (s.size : Int)) = false := by simp; omega
  go_enter Try.func3, Try.ntmps3
  go_wp2_with (first | (go_at_call 6; refine (H.out _).mono ?_; rintro e w2 ⟨rfl, hb⟩) | (go_at_call 7; refine (HC.out _).mono ?_; rintro e w3 ⟨rfl, hw⟩; subst hw) | go_in)
  go_ret
  exact ⟨rfl, hb⟩

set_option maxHeartbeats 2000000 in
set_option maxRecDepth 100000 in
theorem char_none (s : ByteArray) (hs : s.size ≤ 1048576) (hd : Lib.indexByte s.data.toList 58 < 0) (w : World) :
    Calls Try.prog 3 #[.string s] w fun e w' => e = .returned (.bool true) ∧ Below w.heap.size w w' := by
  have hp := indexByte_none s.data.toList 58 hd
  have H := Lib.hid (fun W => split_none s hd W)
  have HC := Lib.hid (fun W => colon_no s hs hp W)
  have heq : ((s ++ ⟨#[58]⟩ ++ ⟨#[]⟩).toList == s.toList) = false := by
    rw [Lib.toList_data, Lib.toList_data, app3]
    simp only [beq_eq_false_iff_ne]
    intro h
    have := congrArg List.length h
    simp at this
  have heq2 : ((s ++ ⟨#[58]⟩).toList == s.toList) = false := by
    rw [Lib.toList_data, Lib.toList_data]
    simp only [beq_eq_false_iff_ne]
    intro h
    have := congrArg List.length h
    simp [ByteArray.data_append] at this
  have hself : (s.toList == s.toList) = true := by simp
  clear hd hp
  have hd0 : decide ((1048576 : Int) < (s.size : Int)) = false := by simp; omega
  go_enter Try.func3, Try.ntmps3
  go_wp2_with (first | (go_at_call 6; refine (H.out _).mono ?_; rintro e w2 ⟨rfl, hb⟩) | (go_at_call 7; refine (HC.out _).mono ?_; rintro e w3 ⟨rfl, hw⟩; subst hw) | go_in)
  go_ret
  exact ⟨rfl, hb⟩

set_option maxHeartbeats 2000000 in
set_option maxRecDepth 100000 in
theorem char_any (s : ByteArray) (hm : s.size ≤ maxLen) (w : World) :
    Calls Try.prog 3 #[.string s] w fun e w' => e = .returned (.bool true) ∧ Below w.heap.size w w' := by
  unfold maxLen at hm
  by_cases h1 : s.size ≤ 1048576
  · by_cases h2 : 0 ≤ Lib.indexByte s.data.toList 58
    · obtain ⟨d, hd⟩ := Int.eq_ofNat_of_zero_le h2
      exact char_some s d h1 hd w
    · exact char_none s h1 (by omega) w
  · have hd0 : decide ((1048576 : Int) < (s.size : Int)) = true := by simp; omega
    go_enter Try.func3, Try.ntmps3
    go_wp2
    go_ret
    exact ⟨rfl, Below.refl _ _⟩

theorem join_first (p t : ByteArray) : (p ++ ⟨#[58]⟩ ++ t).extract 0 p.size = p := by
  apply WideShapes.bytes_inj
  rw [Lib.extract_data, app3, List.drop_zero, Nat.sub_zero, show p.size = p.data.toList.length by simp, List.take_left]

theorem join_second (p t : ByteArray) : (p ++ ⟨#[58]⟩ ++ t).extract (p.size + 1) (p ++ ⟨#[58]⟩ ++ t).size = t := by
  apply WideShapes.bytes_inj
  rw [Lib.extract_to_end, app3, show p.data.toList ++ 58 :: t.data.toList = (p.data.toList ++ [58]) ++ t.data.toList by simp, show p.size + 1 = (p.data.toList ++ [58]).length by simp, List.drop_left]

set_option maxHeartbeats 2000000 in
set_option maxRecDepth 100000 in
theorem join_small (p t : ByteArray) (hp : p.size ≤ 524288) (ht : t.size ≤ 524288) (w : World) :
    Calls Try.prog 4 #[.string p, .string t] w fun e w' => e = .returned (.bool true) ∧ Below w.heap.size w w' := by
  have d0 : decide ((524288 : Int) < (p.size : Int)) = false := by simp; omega
  have d1 : decide ((524288 : Int) < (t.size : Int)) = false := by simp; omega
  have hs3 := size3 p t
  go_enter Try.func4, Try.ntmps4
  go_wp2_with (go_at_call 8; go_in)
  refine (colon_any p (by omega) _).mono ?_
  rintro e w2 ⟨⟨b, rfl, hbm⟩, hw⟩
  subst hw
  cases b with
  | true =>
    go_wp2
    go_ret
    exact ⟨rfl, Below.refl _ _⟩
  | false =>
    have hnm := hbm rfl
    have hix : Lib.indexByte (p ++ ⟨#[58]⟩ ++ t).data.toList 58 = (p.size : Int) := by
      rw [app3, indexByte_join _ _ _ hnm]; simp
    have H := Lib.hid (fun W => split_some (p ++ ⟨#[58]⟩ ++ t) p.size (by omega) hix W)
    rw [join_first, join_second] at H
    clear hix hbm hnm
    go_wp2_with fail
    refine (H.out _).mono ?_
    rintro e w3 ⟨rfl, hb⟩
    go_wp2
    go_ret
    exact ⟨rfl, hb⟩

set_option maxHeartbeats 2000000 in
set_option maxRecDepth 100000 in
theorem join_any (p t : ByteArray) (hmp : p.size ≤ maxLen) (hmt : t.size ≤ maxLen) (w : World) :
    Calls Try.prog 4 #[.string p, .string t] w fun e w' => e = .returned (.bool true) ∧ Below w.heap.size w w' := by
  unfold maxLen at hmp hmt
  by_cases hb : p.size ≤ 1048576 ∧ t.size ≤ 1048576 ∧ p.size + t.size ≤ 1048576
  · obtain ⟨b1, b2, b3⟩ := hb
    by_cases h1 : p.size ≤ 524288
    · by_cases h2 : t.size ≤ 524288
      · exact join_small p t h1 h2 w
      · have d0 : decide ((524288 : Int) < (p.size : Int)) = false := by simp; omega
        have d1 : decide ((524288 : Int) < (t.size : Int)) = true := by simp; omega
        go_enter Try.func4, Try.ntmps4
        go_wp2
        go_ret
        exact ⟨rfl, Below.refl _ _⟩
    · have d0 : decide ((524288 : Int) < (p.size : Int)) = true := by simp; omega
      go_enter Try.func4, Try.ntmps4
      go_wp2
      go_ret
      exact ⟨rfl, Below.refl _ _⟩
  · by_cases b1 : p.size ≤ 1048576
    · by_cases b2 : t.size ≤ 1048576
      · have b3 : 1048576 < p.size + t.size := by omega
        clear hb
        go_enter Try.func4, Try.ntmps4
        go_wp2
        go_ret
        exact ⟨rfl, Below.refl _ _⟩
      · clear hb
        go_enter Try.func4, Try.ntmps4
        go_wp2
        go_ret
        exact ⟨rfl, Below.refl _ _⟩
    · clear hb
      go_enter Try.func4, Try.ntmps4
      go_wp2
      go_ret
      exact ⟨rfl, Below.refl _ _⟩
end Go.Proofs.Qxb6603167a
