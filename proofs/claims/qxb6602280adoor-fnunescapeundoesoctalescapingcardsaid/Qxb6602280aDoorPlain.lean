namespace Go.Proofs.Qxb6602280aDoor.Plain

/-- Is the byte written as an escape? -/
def hit (ev : Bool) (c : UInt8) : Bool := ev || c == 32 || c == 9 || c == 10 || c == 92

def o1 (c : UInt8) : UInt8 := UInt8.ofNat (48 + c.toNat / 64)
def o2 (c : UInt8) : UInt8 := UInt8.ofNat (48 + c.toNat / 8 % 8)
def o3 (c : UInt8) : UInt8 := UInt8.ofNat (48 + c.toNat % 8)

def esc (ev : Bool) (c : UInt8) : List UInt8 := if hit ev c then [92, o1 c, o2 c, o3 c] else [c]

def enc (ev : Bool) : List UInt8 → List UInt8
  | [] => []
  | c :: r => esc ev c ++ enc ev r

theorem enc_append (ev : Bool) (a b : List UInt8) : enc ev (a ++ b) = enc ev a ++ enc ev b := by
  induction a with
  | nil => rfl
  | cons c r ih => simp [enc, ih]

/-- Where the k-th byte's writing begins. -/
def pos (ev : Bool) (x : List UInt8) (k : Nat) : Nat := (enc ev (x.take k)).length

theorem pos_zero (ev : Bool) (x : List UInt8) : pos ev x 0 = 0 := by simp [pos, enc]

theorem pos_end (ev : Bool) (x : List UInt8) : pos ev x x.length = (enc ev x).length := by simp [pos]

theorem enc_snoc (ev : Bool) (x : List UInt8) (k : Nat) (hk : k < x.length) : enc ev (x.take (k + 1)) = enc ev (x.take k) ++ esc ev x[k] := by
  rw [List.take_succ_eq_append_getElem hk, enc_append]
  simp [enc]

theorem esc_len (ev : Bool) (c : UInt8) : (esc ev c).length ≤ 4 := by unfold esc; split <;> simp

theorem pos_succ (ev : Bool) (x : List UInt8) (k : Nat) (hk : k < x.length) : pos ev x (k + 1) = pos ev x k + (esc ev x[k]).length := by
  unfold pos
  rw [enc_snoc ev x k hk]
  simp

theorem enc_len (ev : Bool) (x : List UInt8) : (enc ev x).length ≤ 4 * x.length := by
  induction x with
  | nil => simp [enc]
  | cons c r ih => have := esc_len ev c; simp [enc]; omega

theorem pos_le4 (ev : Bool) (x : List UInt8) (k : Nat) : pos ev x k ≤ 4 * k := by
  have := enc_len ev (x.take k)
  have h2 : (x.take k).length ≤ k := List.length_take_le _ _
  unfold pos; omega

theorem enc_split (ev : Bool) (x : List UInt8) (k : Nat) (hk : k < x.length) : enc ev x = enc ev (x.take k) ++ (esc ev x[k] ++ enc ev (x.drop (k + 1))) := by
  have h : x = x.take k ++ (x[k] :: x.drop (k + 1)) := by
    rw [← List.drop_eq_getElem_cons hk, List.take_append_drop]
  have h2 := enc_append ev (x.take k) (x[k] :: x.drop (k + 1))
  rw [← h] at h2
  exact h2

/-- A byte that is escaped: its four bytes. -/
theorem at_hit (ev : Bool) (x : List UInt8) (k : Nat) (hk : k < x.length) (h : hit ev x[k] = true) :
    pos ev x (k + 1) = pos ev x k + 4 ∧ pos ev x k + 3 < (enc ev x).length ∧ (enc ev x).getD (pos ev x k) 0 = 92 ∧ (enc ev x).getD (pos ev x k + 1) 0 = o1 x[k] ∧ (enc ev x).getD (pos ev x k + 2) 0 = o2 x[k] ∧ (enc ev x).getD (pos ev x k + 3) 0 = o3 x[k] := by
  have hs := enc_split ev x k hk
  have he : esc ev x[k] = [92, o1 x[k], o2 x[k], o3 x[k]] := by simp [esc, h]
  refine ⟨by rw [pos_succ ev x k hk, he]; rfl, ?_⟩
  rw [he] at hs
  rw [hs]
  have hp : (enc ev (x.take k)).length = pos ev x k := rfl
  simp only [List.getD_eq_getElem?_getD, List.length_append, List.length_cons, hp]
  refine ⟨by omega, ?_, ?_, ?_, ?_⟩ <;> (rw [List.getElem?_append_right (by omega), hp]; simp)

/-- A byte that stands as it is: it is no backslash. -/
theorem at_miss (ev : Bool) (x : List UInt8) (k : Nat) (hk : k < x.length) (h : hit ev x[k] = false) :
    pos ev x (k + 1) = pos ev x k + 1 ∧ pos ev x k < (enc ev x).length ∧ (enc ev x).getD (pos ev x k) 0 = x[k] ∧ x[k] ≠ 92 := by
  have hs := enc_split ev x k hk
  have he : esc ev x[k] = [x[k]] := by simp [esc, h]
  refine ⟨by rw [pos_succ ev x k hk, he]; rfl, ?_⟩
  rw [he] at hs
  rw [hs]
  have hp : (enc ev (x.take k)).length = pos ev x k := rfl
  simp only [List.getD_eq_getElem?_getD, List.length_append, List.length_cons, hp]
  refine ⟨by omega, ?_, ?_⟩
  · rw [List.getElem?_append_right (by omega), hp]; simp
  · intro e
    rw [e] at h
    simp [hit] at h

theorem o1_nat (c : UInt8) : (o1 c).toNat = 48 + c.toNat / 64 ∧ c.toNat / 64 ≤ 7 := by
  have := c.toNat_lt
  unfold o1
  rw [UInt8.toNat_ofNat']
  omega
theorem o2_nat (c : UInt8) : (o2 c).toNat = 48 + c.toNat / 8 % 8 ∧ c.toNat / 8 % 8 ≤ 7 := by
  have := c.toNat_lt
  unfold o2
  rw [UInt8.toNat_ofNat']
  omega
theorem o3_nat (c : UInt8) : (o3 c).toNat = 48 + c.toNat % 8 ∧ c.toNat % 8 ≤ 7 := by
  have := c.toNat_lt
  unfold o3
  rw [UInt8.toNat_ofNat']
  omega

/-- A text without a backslash stands as it is. -/
theorem enc_none (ev : Bool) (x : List UInt8) (h : (92 : UInt8) ∉ enc ev x) : enc ev x = x := by
  induction x with
  | nil => rfl
  | cons c r ih =>
    simp only [enc] at h ⊢
    have h1 : hit ev c = false := by
      cases hh : hit ev c with
      | false => rfl
      | true => exact absurd (by simp [esc, hh]) h
    have h2 : (92 : UInt8) ∉ enc ev r := fun hm => h (List.mem_append_right _ hm)
    rw [ih h2]
    simp [esc, h1]

/-- the three digits, and the number as it grows -/
def dg (c : UInt8) : Nat → Nat
  | 0 => c.toNat / 64
  | 1 => c.toNat / 8 % 8
  | _ => c.toNat % 8
def vl (c : UInt8) : Nat → Nat
  | 0 => 0
  | 1 => c.toNat / 64
  | 2 => c.toNat / 64 * 8 + c.toNat / 8 % 8
  | _ => c.toNat

theorem vl_zero (c : UInt8) : vl c 0 = 0 := rfl
theorem vl_three (c : UInt8) : vl c 3 = c.toNat := rfl
theorem vl_succ (c : UInt8) (k : Nat) (hk : k < 3) : vl c (k + 1) = vl c k * 8 + dg c k := by
  have := c.toNat_lt
  match k, hk with
  | 0, _ => simp [vl, dg]
  | 1, _ => simp [vl, dg]
  | 2, _ => simp only [vl, dg]; omega
theorem vl_le (c : UInt8) (k : Nat) (hk : k ≤ 3) : vl c k ≤ 255 := by
  have := c.toNat_lt
  match k, hk with
  | 0, _ => simp [vl]
  | 1, _ => simp only [vl]; omega
  | 2, _ => simp only [vl]; omega
  | 3, _ => simp only [vl]; omega

end Go.Proofs.Qxb6602280aDoor.Plain
