import Derived.Test.Qxb6603108aSmall
import Derived.Test.Qxb6603108aLookPlain
import Derived.Lib.Strings
import Derived.Lib.IndexBytes
namespace Go.Proofs.Qxb6603108a
open Go.RowKit LookP

theorem size_len (s : ByteArray) : s.data.toList.length = s.size := by simp

theorem ends_at (name k : ByteArray) (h1 : k.data.toList ≠ []) (h2 : k.data.toList ≠ name.data.toList) (h3 : k.size < name.size) :
    ends name.data.toList k.data.toList = ((name.data.toList.getD (name.size - k.size - 1) 0 == 46) && (name.data.toList.drop (name.size - k.size) == k.data.toList)) := by
  unfold ends
  have e1 : (k.data.toList == []) = false := by simpa using h1
  have e2 : (k.data.toList == name.data.toList) = false := by simpa using h2
  rw [e1, e2, size_len, size_len]
  simp [h3]

theorem getD_at (s : ByteArray) (i : Nat) (h : i < s.size) : s.data.toList.getD i 0 = s[i] := by
  rw [List.getD_eq_getElem?_getD, List.getElem?_eq_getElem (by simpa using h)]
  rfl

theorem ends_yes (name k : ByteArray) (h1 : k.data.toList ≠ []) (h2 : k.data.toList ≠ name.data.toList) (h3 : k.size < name.size) (h4 : ((name[name.size - k.size - 1]'(by omega)).toNat : Int) = 46) :
    ((name.extract (name.size - k.size) name.size).toList == k.toList) = ends name.data.toList k.data.toList := by
  have e : name.data.toList.getD (name.size - k.size - 1) 0 = 46 := by
    rw [getD_at _ _ (by omega)]; apply UInt8.toNat_inj.1; show _ = 46; omega
  rw [ends_at name k h1 h2 h3, e, Lib.toList_data, Lib.toList_data, Lib.extract_to_end]
  simp

theorem ends_no (name k : ByteArray) (h1 : k.data.toList ≠ []) (h2 : k.data.toList ≠ name.data.toList) (h3 : k.size < name.size) (h4 : ¬ ((name[name.size - k.size - 1]'(by omega)).toNat : Int) = 46) :
    false = ends name.data.toList k.data.toList := by
  have e : (name.data.toList.getD (name.size - k.size - 1) 0 == 46) = false := by
    rw [getD_at _ _ (by omega)]
    simp only [beq_eq_false_iff_ne]
    intro h
    exact h4 (by rw [h]; rfl)
  rw [ends_at name k h1 h2 h3, e]
  rfl

theorem ret_bool {a b : Bool} (h : a = b) : Ending.returned (.bool a) = .returned (.bool b) := by rw [h]

set_option maxHeartbeats 2000000 in
set_option maxRecDepth 100000 in
theorem ends_walk (name k : ByteArray) (hn : name.size ≤ 1048576) (w : World) :
    Calls Try.prog 19 #[.string name, .string k] w fun e w' => e = .returned (.bool (ends name.data.toList k.data.toList)) ∧ w' = w := by
  by_cases h1 : k.data.toList = []
  · have e1 : k.toList.isEmpty = true := by rw [Lib.toList_data, h1]; rfl
    have e2 : ends name.data.toList k.data.toList = true := by rw [h1]; rfl
    rw [e2]
    clear h1 e2
    go_enter Try.func19, Try.ntmps19
    go_wp2
    go_ret
    exact ⟨rfl, rfl⟩
  · have e1 : k.toList.isEmpty = false := by rw [Lib.toList_data]; simpa using h1
    by_cases h2 : k.data.toList = name.data.toList
    · have e3 : (k.toList == name.toList) = true := by rw [Lib.toList_data, Lib.toList_data, h2]; simp
      have e2 : ends name.data.toList k.data.toList = true := by rw [h2]; simp [ends]
      rw [e2]
      clear h1 h2 e2
      go_enter Try.func19, Try.ntmps19
      go_wp2
      go_ret
      exact ⟨rfl, rfl⟩
    · have e3 : (k.toList == name.toList) = false := by rw [Lib.toList_data, Lib.toList_data]; simpa using h2
      by_cases h3 : name.size ≤ k.size
      · have e2 : ends name.data.toList k.data.toList = false := by
          have a1 : (k.data.toList == []) = false := by simpa using h1
          have a2 : (k.data.toList == name.data.toList) = false := by simpa using h2
          unfold ends
          rw [a1, a2, size_len, size_len]
          simp; intro h; omega
        rw [e2]
        clear h1 h2 e2
        go_enter Try.func19, Try.ntmps19
        go_wp2
        go_ret
        exact ⟨rfl, rfl⟩
      · have i1 : (k.size : Int) < (name.size : Int) := by omega
        have i2 : (0 : Int) ≤ (name.size : Int) - (k.size : Int) - 1 := by omega
        have i3 : (name.size : Int) - (k.size : Int) - 1 < (name.size : Int) := by omega
        have H1 := Lib.hid (And.intro h1 h2)
        clear h1 h2
        go_enter Try.func19, Try.ntmps19
        go_wp2
        · have h4 : ((name[name.size - k.size - 1]'(by omega)).toNat : Int) = 46 := by assumption
          go_ret
          exact ⟨ret_bool (ends_yes name k H1.out.1 H1.out.2 (by omega) h4), rfl⟩
        · have h4 : ¬ ((name[name.size - k.size - 1]'(by omega)).toNat : Int) = 46 := by assumption
          go_ret
          exact ⟨ret_bool (ends_no name k H1.out.1 H1.out.2 (by omega) h4), rfl⟩
end Go.Proofs.Qxb6603108a
