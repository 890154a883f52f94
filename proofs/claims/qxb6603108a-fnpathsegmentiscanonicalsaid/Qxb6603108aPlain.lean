import Derived.Lib.Bytealg
namespace Go.Proofs.Qxb6603108a.Plain

def lits : List UInt8 := [45, 46, 95, 126, 33, 36, 38, 39, 40, 41, 42, 43, 44, 59, 61, 58, 64]

/-- isSegmentChar -/
def seg (c : UInt8) : Bool := (decide (97 ≤ c.toNat) && decide (c.toNat ≤ 122)) || (decide (65 ≤ c.toNat) && decide (c.toNat ≤ 90)) || (decide (48 ≤ c.toNat) && decide (c.toNat ≤ 57)) || decide (0 ≤ Lib.indexByte lits c)

/-- the law's own set -/
def allowed (n : Nat) : Bool := if n < 64 then 3458623578763689984 / 2 ^ n % 2 == 1 else if n < 128 then 5188146764422578175 / 2 ^ (n - 64) % 2 == 1 else false

theorem seg_allowed_fin : ∀ c : Fin 256, seg (UInt8.ofNat c.val) = allowed c.val := by decide +kernel

theorem ofNat_toNat (c : UInt8) : UInt8.ofNat c.toNat = c := by simp

theorem seg_allowed (c : UInt8) : seg c = allowed c.toNat := by
  have := seg_allowed_fin ⟨c.toNat, c.toNat_lt⟩
  rw [ofNat_toNat] at this
  exact this

theorem seg_percent : seg 37 = false := by decide +kernel

/-- the upper-case hexadecimal digit -/
def hx (d : Nat) : Nat := if d < 10 then 48 + d else 55 + d

def hexes : List UInt8 := [48, 49, 50, 51, 52, 53, 54, 55, 56, 57, 65, 66, 67, 68, 69, 70]

theorem hexes_fin : ∀ d : Fin 16, (hexes.getD d.val 0).toNat = hx d.val := by decide +kernel
theorem hexes_at (d : Nat) (h : d < 16) : (hexes.getD d 0).toNat = hx d := hexes_fin ⟨d, h⟩
theorem hx_lt (d : Nat) (h : d < 16) : hx d < 256 := by unfold hx; split <;> omega

def h1 (c : UInt8) : UInt8 := UInt8.ofNat (hx (c.toNat / 16))
def h2 (c : UInt8) : UInt8 := UInt8.ofNat (hx (c.toNat % 16))

theorem h1_nat (c : UInt8) : (h1 c).toNat = hx (c.toNat / 16) := by
  have := c.toNat_lt
  have h := hx_lt (c.toNat / 16) (by omega)
  unfold h1
  rw [UInt8.toNat_ofNat']
  omega
theorem h2_nat (c : UInt8) : (h2 c).toNat = hx (c.toNat % 16) := by
  have h := hx_lt (c.toNat % 16) (by omega)
  unfold h2
  rw [UInt8.toNat_ofNat']
  omega

def esc (c : UInt8) : List UInt8 := if seg c then [c] else [37, h1 c, h2 c]

def enc : List UInt8 → List UInt8
  | [] => []
  | c :: r => esc c ++ enc r

theorem enc_append (a b : List UInt8) : enc (a ++ b) = enc a ++ enc b := by
  induction a with
  | nil => rfl
  | cons c r ih => simp [enc, ih]

/-- Where the k-th byte's writing begins. -/
def pos (x : List UInt8) (k : Nat) : Nat := (enc (x.take k)).length

theorem pos_zero (x : List UInt8) : pos x 0 = 0 := by simp [pos, enc]

theorem pos_end (x : List UInt8) : pos x x.length = (enc x).length := by simp [pos]

theorem enc_snoc (x : List UInt8) (k : Nat) (hk : k < x.length) : enc (x.take (k + 1)) = enc (x.take k) ++ esc x[k] := by
  rw [List.take_succ_eq_append_getElem hk, enc_append]
  simp [enc]

theorem esc_len (c : UInt8) : (esc c).length ≤ 3 := by unfold esc; split <;> simp

theorem pos_succ (x : List UInt8) (k : Nat) (hk : k < x.length) : pos x (k + 1) = pos x k + (esc x[k]).length := by
  unfold pos
  rw [enc_snoc x k hk]
  simp

theorem enc_len (x : List UInt8) : (enc x).length ≤ 3 * x.length := by
  induction x with
  | nil => simp [enc]
  | cons c r ih => have := esc_len c; simp [enc]; omega

theorem pos_le3 (x : List UInt8) (k : Nat) : pos x k ≤ 3 * k := by
  have := enc_len (x.take k)
  have h2 : (x.take k).length ≤ k := List.length_take_le _ _
  unfold pos; omega

theorem enc_split (x : List UInt8) (k : Nat) (hk : k < x.length) : enc x = enc (x.take k) ++ (esc x[k] ++ enc (x.drop (k + 1))) := by
  have h : x = x.take k ++ (x[k] :: x.drop (k + 1)) := by
    rw [← List.drop_eq_getElem_cons hk, List.take_append_drop]
  have h2 := enc_append (x.take k) (x[k] :: x.drop (k + 1))
  rw [← h] at h2
  exact h2

theorem at_hit (x : List UInt8) (k : Nat) (hk : k < x.length) (h : seg x[k] = false) :
    pos x (k + 1) = pos x k + 3 ∧ pos x k + 2 < (enc x).length ∧ (enc x).getD (pos x k) 0 = 37 ∧ (enc x).getD (pos x k + 1) 0 = h1 x[k] ∧ (enc x).getD (pos x k + 2) 0 = h2 x[k] := by
  have hs := enc_split x k hk
  have he : esc x[k] = [37, h1 x[k], h2 x[k]] := by simp [esc, h]
  refine ⟨by rw [pos_succ x k hk, he]; rfl, ?_⟩
  rw [he] at hs
  rw [hs]
  have hp : (enc (x.take k)).length = pos x k := rfl
  simp only [List.getD_eq_getElem?_getD, List.length_append, List.length_cons, hp]
  refine ⟨by omega, ?_, ?_, ?_⟩ <;> (rw [List.getElem?_append_right (by omega), hp]; simp)

theorem at_miss (x : List UInt8) (k : Nat) (hk : k < x.length) (h : seg x[k] = true) :
    pos x (k + 1) = pos x k + 1 ∧ pos x k < (enc x).length ∧ (enc x).getD (pos x k) 0 = x[k] ∧ x[k] ≠ 37 := by
  have hs := enc_split x k hk
  have he : esc x[k] = [x[k]] := by simp [esc, h]
  refine ⟨by rw [pos_succ x k hk, he]; rfl, ?_⟩
  rw [he] at hs
  rw [hs]
  have hp : (enc (x.take k)).length = pos x k := rfl
  simp only [List.getD_eq_getElem?_getD, List.length_append, List.length_cons, hp]
  refine ⟨by omega, ?_, ?_⟩
  · rw [List.getElem?_append_right (by omega), hp]; simp
  · intro e
    rw [e, seg_percent] at h
    cases h

/-- how many escapes stand ahead of the k-th byte's writing -/
def cnt (x : List UInt8) (k : Nat) : Nat := ((x.take k).filter fun c => !seg c).length

theorem cnt_zero (x : List UInt8) : cnt x 0 = 0 := by simp [cnt]
theorem cnt_succ (x : List UInt8) (k : Nat) (hk : k < x.length) : cnt x (k + 1) = cnt x k + (if seg x[k] then 0 else 1) := by
  unfold cnt
  rw [List.take_succ_eq_append_getElem hk, List.filter_append]
  cases h : seg x[k] <;> simp [h]
theorem cnt_le (x : List UInt8) (k : Nat) : cnt x k ≤ k := by
  have h1 := List.length_filter_le (fun c => !seg c) (x.take k)
  have h2 : (x.take k).length ≤ k := List.length_take_le _ _
  unfold cnt; omega

theorem enc_cnt (x : List UInt8) : (enc x).length = x.length + 2 * (x.filter fun c => !seg c).length := by
  induction x with
  | nil => rfl
  | cons c r ih =>
    cases h : seg c <;> simp [enc, esc, h, ih] <;> omega
theorem pos_cnt (x : List UInt8) : (enc x).length = x.length + 2 * cnt x x.length := by
  rw [enc_cnt]; simp [cnt]

end Go.Proofs.Qxb6603108a.Plain
