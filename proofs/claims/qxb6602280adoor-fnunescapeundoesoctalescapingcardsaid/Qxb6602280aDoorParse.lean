import Derived.Test.Qxb6602280aDoorProg
import Derived.WalkKit
import Derived.BigCall
import Derived.BigGuard
import Derived.Lib.ConvBytes
import Derived.Lib.Hide
import Derived.Lib.Walk
import Derived.Lib.Strings
import Derived.Laws.Strings3
import Derived.Laws.Closers25
import Derived.Laws.Closers25b
import Derived.Lib.SmallJoins
namespace Go.Proofs.Qxb6602280aDoor
open Go.RowKit

set_option maxHeartbeats 4000000 in
set_option maxRecDepth 100000 in
/-- internal/strconv.ParseUint(t, 8, 8) of a text of n octal digits (1 or more) whose value never leaves a byte. -/
theorem parse_in (t : ByteArray) (n : Nat) (hn : t.size = n) (hn0 : 0 < n) (hn1 : n ≤ 100) (dg vl : Nat → Nat) (hd : ∀ k, k < n → (t.data.toList.getD k 0).toNat = 48 + dg k ∧ dg k ≤ 7)
    (hv0 : vl 0 = 0) (hvs : ∀ k, k < n → vl (k + 1) = vl k * 8 + dg k) (hvb : ∀ k, k ≤ n → vl k ≤ 255) (w : World) :
    Calls Tryd.prog 30 #[.string t, .int .i64 8, .int .i64 8] w fun e w' => e = .returned (.tuple #[.int .u64 (vl n), .nilIface]) ∧ Below w.heap.size w w' := by
  have hemp : t.toList.isEmpty = false := by
    rw [← decide_eq_emptyBytes]
    exact decide_eq_false (fun h => by rw [h] at hn; have : (0 : Nat) = n := hn; omega)
  have hcv := Lib.run_convert_string_bytes (P := Tryd.prog) w 9 23 5 t (u := .string) Tryd.underlying9 Tryd.underlying23 Tryd.underlying5
  have hB : ∀ j, j < n → (Lib.bytesWorld w 5 t).cell? ⟨w.heap.size, j, none⟩ = some (.int .u8 (48 + dg j : Nat)) := fun j hj => by
    rw [Lib.bytesWorld_cell w 5 t j (by omega), (hd j hj).1]
  have hbel : Below w.heap.size w (Lib.bytesWorld w 5 t) := Joins.below_bytesWorld _ _ _ _ (Nat.le_refl _)
  rw [hn] at hcv
  obtain ⟨W1, hW1⟩ : ∃ W1, W1 = Lib.bytesWorld w 5 t := ⟨_, rfl⟩
  rw [← hW1] at hcv hB hbel
  clear hW1
  have HB := Lib.hid hbel
  have HD := Lib.hid hd
  have HV := Lib.hid (And.intro hv0 (And.intro hvs hvb))
  clear hbel hd hv0 hvs hvb
  go_enter Tryd.func30, Tryd.ntmps30
  go_wp2
  go_loop [12, 13, 101] (fun vu vn vi => ∃ (k : Nat) (a : Int), vu = .bool false ∧ vn = .int .u64 a ∧ vi = .int .i64 k ∧ k ≤ n ∧ Hid (a = (vl k : Int))) (fun _ _ vi => n - (intOf vi).toNat)
  case atStart => exact ⟨0, 0, rfl, rfl, rfl, by omega, Lib.hid (by rw [HV.out.1]; rfl)⟩
  case round =>
    obtain ⟨k, a, rfl, rfl, rfl, hk, hh⟩ := hrel
    have ha := hh.out
    clear hh
    have hb1 := HV.out.2.2 k hk
    have a0 : 0 ≤ a := by omega
    have a1 : a ≤ 255 := by omega
    by_cases hkn : k < n
    · have hc := hB k hkn
      have hd7 := (HD.out k hkn).2
      have hvs := HV.out.2.1 k hkn
      have hb2 := HV.out.2.2 (k + 1) (by omega)
      have HN : Hid (a * 8 + (dg k : Int) = ((vl (k + 1) : Nat) : Int)) := Lib.hid (by rw [hvs, ha]; push_cast; rfl)
      generalize hd : dg k = d at *
      have i1 : a * 8 + (d : Int) ≤ 255 := by rw [ha]; omega
      clear hB hvs hb1 hb2 ha hd
      go_wp2
      go_round
      case rel => exact ⟨k + 1, a * 8 + (d : Int), rfl, by go_num, by go_num, by omega, HN⟩
      case measure => simp [intOf]; omega
    · obtain rfl : k = n := by omega
      subst ha
      go_wp2
      go_ret2
      exact ⟨rfl, HB.out⟩

set_option maxHeartbeats 4000000 in
set_option maxRecDepth 100000 in
/-- strconv.ParseUint, the same. -/
theorem parse_out (t : ByteArray) (n : Nat) (hn : t.size = n) (hn0 : 0 < n) (hn1 : n ≤ 100) (dg vl : Nat → Nat) (hd : ∀ k, k < n → (t.data.toList.getD k 0).toNat = 48 + dg k ∧ dg k ≤ 7)
    (hv0 : vl 0 = 0) (hvs : ∀ k, k < n → vl (k + 1) = vl k * 8 + dg k) (hvb : ∀ k, k ≤ n → vl k ≤ 255) (w : World) :
    Calls Tryd.prog 24 #[.string t, .int .i64 8, .int .i64 8] w fun e w' => e = .returned (.tuple #[.int .u64 (vl n), .nilIface]) ∧ Below w.heap.size w w' := by
  have H := parse_in t n hn hn0 hn1 dg vl hd hv0 hvs hvb w
  have HH := Lib.hid H
  clear H hd hv0 hvs hvb hn hn0 hn1
  go_enter Tryd.func24, Tryd.ntmps24
  go_wp2_with fail
  refine (HH.out).mono ?_
  rintro e w' ⟨rfl, hb⟩
  go_wp2
  go_ret2
  exact ⟨rfl, hb⟩
end Go.Proofs.Qxb6602280aDoor
