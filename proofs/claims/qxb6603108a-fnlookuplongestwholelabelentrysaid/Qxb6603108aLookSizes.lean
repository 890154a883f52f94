import Derived.Test.Qxb6603108aLookClone
namespace Go.Proofs.Qxb6603108a
open Go.RowKit LookP

/-- it ends, with some bool -/
def SomeBool (e : Ending) : Prop := ∃ b : Bool, e = .returned (.bool b)

theorem IsStrs.at {w : World} {a : Option Addr} {n c : Nat} {ss : List ByteArray} (h : IsStrs w a n c ss) (k : Nat) (hk : k < n) :
    ∃ b off x, a = some ⟨b, off, none⟩ ∧ x.size ≤ 9223372036854775807 ∧ w.cell? ⟨b, off + k, none⟩ = some (.string x) := by
  obtain ⟨h1, h2, h3, h4, h5⟩ := h
  obtain ⟨b, off, e, _, hc⟩ := h5 (by omega)
  have hs := h3 _ (List.getElem_mem (show k < ss.length by omega))
  unfold maxLen at hs
  exact ⟨b, off, ss[k], e, by omega, hc k (by omega)⟩

set_option maxHeartbeats 8000000 in
set_option maxRecDepth 100000 in
theorem bytes_walk (a0 a1 : Option Addr) (n0 c0 n1 c1 : Nat) (s0 s1 : List ByteArray) (name : ByteArray) (_hname : name.size ≤ maxLen) (w : World) (h0 : IsStrs w a0 n0 c0 s0) (h1 : IsStrs w a1 n1 c1 s1) :
    Calls Try.prog 14 #[.slice a0 n0 c0, .slice a1 n1 c1, .string name] w fun e w' => SomeBool e ∧ w' = w := by
  have hm0 := h0.2.1
  have hm1 := h1.2.1
  have F0 := Lib.hid h0.at
  have F1 := Lib.hid h1.at
  unfold maxLen at hm0 hm1 _hname
  clear h0 h1
  by_cases q0 : 1048576 < n0
  · have d0 : decide ((1048576 : Int) < (n0 : Int)) = true := by simp; omega
    go_enter Try.func14, Try.ntmps14
    go_wp2
    go_ret
    exact ⟨⟨_, rfl⟩, rfl⟩
  have d0 : decide ((1048576 : Int) < (n0 : Int)) = false := by simp; omega
  go_enter Try.func14, Try.ntmps14
  go_wp2
  go_loop [7, 8] (fun z i => ∃ (k : Nat) (t : Int), z = .int .i64 t ∧ i = .int .i64 k ∧ k ≤ n0) (fun _ i => n0 - (intOf i).toNat)
  case atStart => exact ⟨0, _, rfl, rfl, Nat.zero_le _⟩
  case round =>
    obtain ⟨k, t, rfl, rfl, hk⟩ := hrel
    by_cases hlt : k < n0
    · obtain ⟨b, off, x, rfl, zz, c⟩ := F0.out k hlt
      have i1 : (k : Int) < (n0 : Int) := by omega
      go_wp2
      · go_ret
        exact ⟨⟨_, rfl⟩, rfl⟩
      · go_ret
        exact ⟨⟨_, rfl⟩, rfl⟩
      · go_round
        case rel => exact ⟨k + 1, _, rfl, by go_num, by omega⟩
        case measure => simp [intOf]; omega
    · by_cases q1 : 1048576 < n1
      · have d1 : decide ((1048576 : Int) < (n1 : Int)) = true := by simp; omega
        go_wp2
        go_ret
        exact ⟨⟨_, rfl⟩, rfl⟩
      have d1 : decide ((1048576 : Int) < (n1 : Int)) = false := by simp; omega
      go_wp2
      · go_ret
        exact ⟨⟨_, rfl⟩, rfl⟩
      · go_loop [7, 9] (fun z i => ∃ (k : Nat) (t : Int), z = .int .i64 t ∧ i = .int .i64 k ∧ k ≤ n1) (fun _ i => n1 - (intOf i).toNat)
        case atStart => exact ⟨0, _, rfl, rfl, Nat.zero_le _⟩
        case round =>
          obtain ⟨k', t', rfl, rfl, hk'⟩ := hrel
          by_cases hlt' : k' < n1
          · obtain ⟨b, off, x, rfl, zz, c⟩ := F1.out k' hlt'
            have i1 : (k' : Int) < (n1 : Int) := by omega
            go_wp2
            · go_ret
              exact ⟨⟨_, rfl⟩, rfl⟩
            · go_ret
              exact ⟨⟨_, rfl⟩, rfl⟩
            · go_round
              case rel => exact ⟨k' + 1, _, rfl, by go_num, by omega⟩
              case measure => simp [intOf]; omega
          · go_wp2
            all_goals
              go_ret
              exact ⟨⟨_, rfl⟩, rfl⟩

set_option maxHeartbeats 8000000 in
set_option maxRecDepth 100000 in
theorem big_yes (a0 a1 : Option Addr) (n0 c0 n1 c1 : Nat) (name : ByteArray) (w : World) (h : 65536 < n0 ∨ 65536 < n1 ∨ 16384 < name.size) :
    Calls Try.prog 15 #[.slice a0 n0 c0, .slice a1 n1 c1, .string name, .string ⟨#[]⟩] w fun e w' => e = .returned (.bool true) ∧ w' = w := by
  by_cases q0 : 65536 < n0
  · have d0 : decide ((65536 : Int) < (n0 : Int)) = true := by simp; omega
    clear h
    go_enter Try.func15, Try.ntmps15
    go_wp2
    go_ret
    exact ⟨rfl, rfl⟩
  · have d0 : decide ((65536 : Int) < (n0 : Int)) = false := by simp; omega
    by_cases q1 : 65536 < n1
    · have d1 : decide ((65536 : Int) < (n1 : Int)) = true := by simp; omega
      clear h
      go_enter Try.func15, Try.ntmps15
      go_wp2
      go_ret
      exact ⟨rfl, rfl⟩
    · have d1 : decide ((65536 : Int) < (n1 : Int)) = false := by simp; omega
      have d2 : decide ((16384 : Int) < (name.size : Int)) = true := by simp; omega
      clear h
      go_enter Try.func15, Try.ntmps15
      go_wp2
      go_ret
      exact ⟨rfl, rfl⟩

set_option maxHeartbeats 8000000 in
set_option maxRecDepth 100000 in
theorem big_some (a0 a1 : Option Addr) (n0 c0 n1 c1 : Nat) (s0 s1 : List ByteArray) (name : ByteArray) (w : World) (h0 : IsStrs w a0 n0 c0 s0) (h1 : IsStrs w a1 n1 c1 s1) (q0 : n0 ≤ 65536) (q1 : n1 ≤ 65536) (q2 : name.size ≤ 16384) :
    Calls Try.prog 15 #[.slice a0 n0 c0, .slice a1 n1 c1, .string name, .string ⟨#[]⟩] w fun e w' => SomeBool e ∧ w' = w := by
  have F0 := Lib.hid h0.at
  have F1 := Lib.hid h1.at
  clear h0 h1
  have d0 : decide ((65536 : Int) < (n0 : Int)) = false := by simp; omega
  have d1 : decide ((65536 : Int) < (n1 : Int)) = false := by simp; omega
  have d2 : decide ((16384 : Int) < (name.size : Int)) = false := by simp; omega
  go_enter Try.func15, Try.ntmps15
  go_wp2
  go_loop [9, 10] (fun z i => ∃ (k : Nat) (t : Int), z = .int .i64 t ∧ i = .int .i64 k ∧ k ≤ n0) (fun _ i => n0 - (intOf i).toNat)
  case atStart => exact ⟨0, _, rfl, rfl, Nat.zero_le _⟩
  case round =>
    obtain ⟨k, t, rfl, rfl, hk⟩ := hrel
    by_cases hlt : k < n0
    · obtain ⟨b, off, x, rfl, zz, c⟩ := F0.out k hlt
      have i1 : (k : Int) < (n0 : Int) := by omega
      go_wp2
      · go_ret
        exact ⟨⟨_, rfl⟩, rfl⟩
      · go_ret
        exact ⟨⟨_, rfl⟩, rfl⟩
      · go_round
        case rel => exact ⟨k + 1, _, rfl, by go_num, by omega⟩
        case measure => simp [intOf]; omega
    · go_wp2
      go_loop [9, 11] (fun z i => ∃ (k : Nat) (t : Int), z = .int .i64 t ∧ i = .int .i64 k ∧ k ≤ n1) (fun _ i => n1 - (intOf i).toNat)
      case atStart => exact ⟨0, _, rfl, rfl, Nat.zero_le _⟩
      case round =>
        obtain ⟨k', t', rfl, rfl, hk'⟩ := hrel
        by_cases hlt' : k' < n1
        · obtain ⟨b, off, x, rfl, zz, c⟩ := F1.out k' hlt'
          have i1 : (k' : Int) < (n1 : Int) := by omega
          go_wp2
          · go_ret
            exact ⟨⟨_, rfl⟩, rfl⟩
          · go_ret
            exact ⟨⟨_, rfl⟩, rfl⟩
          · go_round
            case rel => exact ⟨k' + 1, _, rfl, by go_num, by omega⟩
            case measure => simp [intOf]; omega
        · go_wp2
          go_ret
          exact ⟨⟨_, rfl⟩, rfl⟩
end Go.Proofs.Qxb6603108a
