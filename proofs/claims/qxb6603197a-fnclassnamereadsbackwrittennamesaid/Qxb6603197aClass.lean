import Derived.Test.Qxb6603197aShelf
import Derived.WalkKit
import Derived.WalkSpells
import Derived.Lib.Strings
import Derived.Lib.Index
import Derived.Lib.IndexLaws
import Derived.Lib.IndexBytes
import Derived.Lib.Walk
import Derived.Lib.Hide
namespace Go.Proofs.Qxb6603197a
open Go.RowKit

/-- the name holds no closing mark -/
def NoMark (l : List UInt8) : Prop := ∀ i : Nat, ¬ (l[i]? = some (58 : UInt8) ∧ l[i + 1]? = some (93 : UInt8))

theorem prefix_two (a b : UInt8) (l : List UInt8) : [a, b].isPrefixOf l = true ↔ l[0]? = some a ∧ l[1]? = some b := by
  match l with
  | [] => simp
  | [x] => simp
  | x :: y :: r =>
    simp only [List.isPrefixOf, Bool.and_true, Bool.and_eq_true, beq_iff_eq, List.getElem?_cons_zero, List.getElem?_cons_succ, Option.some.injEq]
    exact ⟨fun h => ⟨h.1.symm, h.2.symm⟩, fun h => ⟨h.1.symm, h.2.symm⟩⟩

theorem index_mark (l t : List UInt8) (h : NoMark l) : Lib.index (l ++ 58 :: 93 :: t) [58, 93] = (l.length : Int) := by
  refine Lib.index_first (by simp) ?_ ?_
  · unfold Lib.occAt
    rw [prefix_two]
    simp
  · intro j hj
    unfold Lib.occAt
    have hx : ¬ ([58, 93] : List UInt8).isPrefixOf ((l ++ 58 :: 93 :: t).drop j) = true := by
      rw [prefix_two]
      simp only [List.getElem?_drop, Nat.add_zero]
      rintro ⟨h1, h2⟩
      rw [List.getElem?_append_left hj] at h1
      by_cases hl : j + 1 < l.length
      · rw [List.getElem?_append_left hl] at h2
        exact h j ⟨h1, h2⟩
      · have he : j + 1 = l.length := by omega
        rw [List.getElem?_append_right (by omega), he] at h2
        simp at h2
    exact Bool.eq_false_iff.2 hx

theorem bytes_eq {a b : ByteArray} (h : a.data.toList = b.data.toList) : a = b := by
  cases a with
  | mk x => cases b with
    | mk y => simp at h; rw [h]

set_option maxHeartbeats 2000000 in
set_option maxRecDepth 100000 in
theorem class_walk (s name : ByteArray) (t : List UInt8) (hl : s.data.toList = 91 :: 58 :: (name.data.toList ++ 58 :: 93 :: t)) (hm : NoMark name.data.toList) (hs : s.size ≤ 4000000) (w : World) (hsh : w.ShapedOpen Try.prog) :
    Calls Try.prog 18 #[.string s] w fun e w' => e = .returned (.tuple #[.string name, .int .i64 ((name.size : Int) + 4), .bool true]) ∧ w' = w := by
  have e1 : Lib.hasPrefix s.data.toList (ByteArray.mk #[91, 58]).data.toList = true := by rw [hl]; simp [Lib.hasPrefix, List.isPrefixOf]
  have e2 : Lib.trimPrefix s.data.toList (ByteArray.mk #[91, 58]).data.toList = name.data.toList ++ 58 :: 93 :: t := by
    unfold Lib.trimPrefix
    rw [e1, hl]
    rfl
  obtain ⟨r, hr⟩ : ∃ r : ByteArray, r = ⟨(name.data.toList ++ 58 :: 93 :: t).toArray⟩ := ⟨_, rfl⟩
  have hrl : r.data.toList = name.data.toList ++ 58 :: 93 :: t := by rw [hr]
  have hrs : r.size + 2 = s.size := by
    have h1 : r.size = r.data.toList.length := by simp
    have h2 : s.size = s.data.toList.length := by simp
    rw [h1, h2, hrl, hl]; simp
  have hns : name.size + 2 ≤ r.size := by
    have h1 : r.size = r.data.toList.length := by simp
    rw [h1, hrl]; simp
  have hix : Lib.index r.data.toList (ByteArray.mk #[58, 93]).data.toList = (name.size : Int) := by
    rw [hrl]
    show Lib.index _ [58, 93] = _
    rw [index_mark _ _ hm]; simp
  have hex : r.extract 0 name.size = name := by
    apply bytes_eq
    rw [Lib.extract_data, hrl, List.drop_zero, Nat.sub_zero, show name.size = name.data.toList.length by simp, List.take_left]
  have HA := Lib.hid (And.intro e1 (And.intro (e2.trans hrl.symm) (And.intro hix hex)))
  have HSH := Lib.hid hsh
  clear hl hm e1 e2 hr hrl hix hex hsh
  go_enter Try.func18, Try.ntmps18
  go_wp2_with fail
  refine (Try.strings_CutPrefix _ _ _).mono ?_
  rintro e w2 ⟨rfl, hw⟩
  subst hw
  rw [HA.out.1, HA.out.2.1]
  have hre : (⟨r.data.toList.toArray⟩ : ByteArray) = r := by simp
  rw [hre]
  clear hre
  go_wp2_with fail
  refine (Try.strings_Index_shaped _ _ _ HSH.out (by omega)).mono ?_
  rintro e w3 ⟨rfl, hw⟩
  subst hw
  rw [HA.out.2.2.1]
  go_wp2
  go_ret3
  exact ⟨by simp [HA.out.2.2.2], rfl⟩

set_option maxHeartbeats 1000000 in
set_option maxRecDepth 100000 in
theorem zzclass_walk (s name : ByteArray) (t : List UInt8) (hl : s.data.toList = 91 :: 58 :: (name.data.toList ++ 58 :: 93 :: t)) (hm : NoMark name.data.toList) (hs : s.size ≤ 4000000) (w : World) (hsh : w.ShapedOpen Try.prog) :
    Calls Try.prog 15 #[.string s] w fun e w' => e = .returned (.tuple #[.string name, .int .i64 ((name.size : Int) + 4), .bool true]) ∧ w' = w := by
  have H := Lib.hid (class_walk s name t hl hm hs w hsh)
  clear hl hm hsh
  go_enter Try.func15, Try.ntmps15
  go_wp2_with fail
  refine (H.out).mono ?_
  rintro e w2 ⟨rfl, hw⟩
  go_wp2
  go_ret3
  exact ⟨rfl, rfl⟩

/-- zzHasCloseMark answers some bool, and false only where there is no mark -/
def MarkSays (s : ByteArray) (e : Ending) : Prop := ∃ b : Bool, e = .returned (.bool b) ∧ (b = false → NoMark s.data.toList)

theorem noMark_of (s : ByteArray) (h : ∀ j (hj : j + 1 < s.size), ¬ (s[j] = 58 ∧ s[j + 1] = 93)) : NoMark s.data.toList := by
  rintro i ⟨h1, h2⟩
  obtain ⟨l1, e1⟩ := List.getElem?_eq_some_iff.1 h1
  obtain ⟨l2, e2⟩ := List.getElem?_eq_some_iff.1 h2
  exact h i (by simpa using l2) ⟨e1, e2⟩

set_option maxHeartbeats 2000000 in
set_option maxRecDepth 100000 in
theorem mark_walk (s : ByteArray) (hs : s.size ≤ 1048576) (w : World) :
    Calls Try.prog 14 #[.string s] w fun e w' => MarkSays s e ∧ w' = w := by
  go_enter Try.func14, Try.ntmps14
  go_wp2
  go_loop [3] (fun i => ∃ k : Nat, k ≤ s.size ∧ i = .int .i64 k ∧ Hid (∀ j (hj : j + 1 < s.size), j < k → ¬ (s[j] = 58 ∧ s[j + 1] = 93))) (fun i => s.size - (intOf i).toNat)
  case atStart => exact ⟨0, Nat.zero_le _, rfl, Lib.hid fun j _ h => by omega⟩
  case round =>
    obtain ⟨k, hk, rfl, hH⟩ := hrel
    by_cases hlt : k + 1 < s.size
    · have hlt0 : k < s.size := by omega
      by_cases hc : s[k] = 58
      · have hne : ((s[k].toNat : Int) == 58) = true := by rw [hc]; rfl
        by_cases hd : s[k + 1] = 93
        · have hne2 : ((s[k + 1].toNat : Int) == 93) = true := by rw [hd]; rfl
          clear hc hd
          go_wp2
          go_ret
          exact ⟨⟨true, rfl, fun h => by cases h⟩, rfl⟩
        · have hne2 : ((s[k + 1].toNat : Int) == 93) = false := by
            simp only [beq_eq_false_iff_ne]
            intro h
            exact hd (by apply UInt8.toNat_inj.1; show s[k + 1].toNat = 93; omega)
          have HN : Hid (∀ j (hj : j + 1 < s.size), j < k + 1 → ¬ (s[j] = 58 ∧ s[j + 1] = 93)) := Lib.hid (by
            intro j hj hlt'
            by_cases hjk : j = k
            · subst hjk; exact fun h => hd h.2
            · exact hH.out j hj (by omega))
          clear hc hd hH
          go_wp2
          go_round
          case rel => exact ⟨k + 1, by omega, by go_num, HN⟩
          case measure => simp [intOf]; omega
      · have hne : ((s[k].toNat : Int) == 58) = false := by
          simp only [beq_eq_false_iff_ne]
          intro h
          exact hc (by apply UInt8.toNat_inj.1; show s[k].toNat = 58; omega)
        have HN : Hid (∀ j (hj : j + 1 < s.size), j < k + 1 → ¬ (s[j] = 58 ∧ s[j + 1] = 93)) := Lib.hid (by
          intro j hj hlt'
          by_cases hjk : j = k
          · subst hjk; exact fun h => hc h.1
          · exact hH.out j hj (by omega))
        clear hc hH
        go_wp2
        go_round
        case rel => exact ⟨k + 1, by omega, by go_num, HN⟩
        case measure => simp [intOf]; omega
    · have HN := Lib.hid (noMark_of s (fun j hj => hH.out j hj (by omega)))
      clear hH
      go_wp2
      go_ret
      exact ⟨⟨false, rfl, fun _ => HN.out⟩, rfl⟩

theorem app4 (n t : ByteArray) : ((⟨#[91, 58]⟩ : ByteArray) ++ n ++ ⟨#[58, 93]⟩ ++ t).data.toList = 91 :: 58 :: (n.data.toList ++ 58 :: 93 :: t.data.toList) := by
  simp [ByteArray.data_append]

theorem size4 (n t : ByteArray) : ((⟨#[91, 58]⟩ : ByteArray) ++ n ++ ⟨#[58, 93]⟩ ++ t).size = n.size + t.size + 4 := by
  have h : ∀ b : ByteArray, b.size = b.data.toList.length := fun b => by simp
  rw [h, app4, h n, h t]; simp; omega

set_option maxHeartbeats 2000000 in
set_option maxRecDepth 100000 in
theorem law_small (n t : ByteArray) (hn : n.size ≤ 1048576) (ht : t.size ≤ 1048576) (hnt : n.size + t.size ≤ 1048576) (w : World) (hsh : w.ShapedOpen Try.prog) :
    Calls Try.prog 6 #[.string n, .string t] w fun e w' => e = .returned (.bool true) ∧ Below w.heap.size w w' := by
  have d0 : decide ((1048576 : Int) < (n.size : Int)) = false := by simp; omega
  have d1 : decide ((1048576 : Int) < (t.size : Int)) = false := by simp; omega
  have d2 : decide ((1048576 : Int) < (n.size : Int) + (t.size : Int)) = false := by simp; omega
  have HSH := Lib.hid hsh
  clear hsh
  go_enter Try.func6, Try.ntmps6
  go_wp2_with (go_at_call 13; go_in)
  refine (mark_walk n hn _).mono ?_
  rintro e w2 ⟨⟨b, rfl, hbm⟩, hw⟩
  subst hw
  cases b with
  | true =>
    go_wp2
    go_ret
    exact ⟨rfl, Below.refl _ _⟩
  | false =>
    have H := Lib.hid (fun W => zzclass_walk _ n t.data.toList (app4 n t) (hbm rfl) (by rw [size4]; omega) W)
    have hs4 := size4 n t
    clear hbm
    go_wp2_with fail
    refine (H.out _ HSH.out).mono ?_
    rintro e w3 ⟨rfl, hw⟩
    subst hw
    go_wp2
    go_ret
    exact ⟨rfl, Below.refl _ _⟩

set_option maxHeartbeats 2000000 in
set_option maxRecDepth 100000 in
theorem law_any (n t : ByteArray) (hmn : n.size ≤ maxLen) (hmt : t.size ≤ maxLen) (w : World) (hsh : w.ShapedOpen Try.prog) :
    Calls Try.prog 6 #[.string n, .string t] w fun e w' => e = .returned (.bool true) ∧ Below w.heap.size w w' := by
  unfold maxLen at hmn hmt
  by_cases b1 : n.size ≤ 1048576
  · by_cases b2 : t.size ≤ 1048576
    · by_cases b3 : n.size + t.size ≤ 1048576
      · exact law_small n t b1 b2 b3 w hsh
      · clear hsh
        go_enter Try.func6, Try.ntmps6
        go_wp2
        go_ret
        exact ⟨rfl, Below.refl _ _⟩
    · clear hsh
      go_enter Try.func6, Try.ntmps6
      go_wp2
      go_ret
      exact ⟨rfl, Below.refl _ _⟩
  · clear hsh
    go_enter Try.func6, Try.ntmps6
    go_wp2
    go_ret
    exact ⟨rfl, Below.refl _ _⟩
end Go.Proofs.Qxb6603197a
