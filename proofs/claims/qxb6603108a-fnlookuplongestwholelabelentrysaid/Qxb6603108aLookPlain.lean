import Derived.Lib.Bytealg
namespace Go.Proofs.Qxb6603108a.LookP

/-- the last pair whose key is s -/
def look : List (ByteArray × ByteArray) → List UInt8 → Option ByteArray
  | [], _ => none
  | p :: r, s => match look r s with
    | some x => some x
    | none => if p.1.data.toList = s then some p.2 else none

theorem look_snoc (l : List (ByteArray × ByteArray)) (k v : ByteArray) (s : List UInt8) : look (l ++ [(k, v)]) s = if k.data.toList = s then some v else look l s := by
  induction l with
  | nil => simp [look]
  | cons p r ih =>
    simp only [List.cons_append, look, ih]
    by_cases h : k.data.toList = s
    · simp [h]
    · simp [h]

theorem look_mem (l : List (ByteArray × ByteArray)) (s : List UInt8) (v : ByteArray) (h : look l s = some v) : ∃ p ∈ l, p.1.data.toList = s := by
  induction l with
  | nil => simp [look] at h
  | cons p r ih =>
    simp only [look] at h
    cases hr : look r s with
    | some x =>
      obtain ⟨q, hq, e⟩ := ih (by rw [hr] at h ⊢; exact h)
      exact ⟨q, List.mem_cons_of_mem _ hq, e⟩
    | none =>
      rw [hr] at h
      by_cases hp : p.1.data.toList = s
      · exact ⟨p, List.mem_cons_self, hp⟩
      · simp [hp] at h

/-- k matches name on whole labels -/
def LS (name k : List UInt8) : Prop := k = [] ∨ k = name ∨ ∃ pre, name = pre ++ 46 :: k

/-- a match is an end of the name -/
theorem LS.tail {name k : List UInt8} (h : LS name k) : ∃ pre, name = pre ++ k := by
  rcases h with rfl | rfl | ⟨pre, e⟩
  · exact ⟨name, by simp⟩
  · exact ⟨[], rfl⟩
  · exact ⟨pre ++ [46], by rw [e]; simp⟩

theorem LS.length {name k : List UInt8} (h : LS name k) : k.length ≤ name.length := by
  obtain ⟨pre, e⟩ := h.tail
  rw [e]; simp

/-- two ends of one length are one -/
theorem tails_eq {name a b p q : List UInt8} (ha : name = p ++ a) (hb : name = q ++ b) (h : a.length = b.length) : a = b := by
  have e : p ++ a = q ++ b := ha.symm.trans hb
  have hl : p.length = q.length := by
    have := congrArg List.length e
    simp at this
    omega
  exact (List.append_inj e hl).2

theorem LS.same {name a b : List UInt8} (ha : LS name a) (hb : LS name b) (h : a.length = b.length) : a = b := by
  obtain ⟨p, e1⟩ := ha.tail
  obtain ⟨q, e2⟩ := hb.tail
  exact tails_eq e1 e2 h

/-- the shorter of two ends is an end of the longer -/
theorem tail_of_tail {name a b p q : List UInt8} (ha : name = p ++ a) (hb : name = q ++ b) (h : b.length ≤ a.length) : ∃ r, a = r ++ b := by
  refine ⟨a.take (a.length - b.length), ?_⟩
  have e1 : a = a.take (a.length - b.length) ++ a.drop (a.length - b.length) := (List.take_append_drop _ _).symm
  have e2 : name = (p ++ a.take (a.length - b.length)) ++ a.drop (a.length - b.length) := by rw [List.append_assoc, ← e1]; exact ha
  have e3 : a.drop (a.length - b.length) = b := tails_eq e2 hb (by simp; omega)
  rw [e3] at e1
  exact e1

/-- what follows the first dot is the longest match that is shorter -/
theorem next_dot {name s a r : List UInt8} (hs : LS name s) (he : s = a ++ 46 :: r) (ha : (46 : UInt8) ∉ a) :
    LS name r ∧ ∀ t, LS name t → t.length < s.length → t.length ≤ r.length := by
  obtain ⟨p, hp⟩ := hs.tail
  refine ⟨Or.inr (Or.inr ⟨p ++ a, by rw [hp, he]; simp⟩), fun t ht hlt => ?_⟩
  rcases ht with rfl | rfl | ⟨q, hq⟩
  · simp
  · rw [hp] at hlt; simp at hlt; omega
  · obtain ⟨x, hx⟩ := tail_of_tail hp hq (by simp; omega)
    rcases Nat.lt_or_ge r.length t.length with h | h
    · exfalso
      have e : x ++ 46 :: t = a ++ 46 :: r := hx.symm.trans he
      have hl := congrArg List.length e
      simp at hl
      have hxa : x.length < a.length := by omega
      have : a[x.length]? = some 46 := by
        have h1 : (x ++ 46 :: t)[x.length]? = some 46 := by simp
        rw [e, List.getElem?_append_left hxa] at h1
        exact h1
      exact ha (List.mem_of_getElem? this)
    · exact h

theorem next_none {name s : List UInt8} (hs : LS name s) (ha : (46 : UInt8) ∉ s) : ∀ t, LS name t → t.length < s.length → t = [] := by
  obtain ⟨p, hp⟩ := hs.tail
  intro t ht hlt
  rcases ht with rfl | rfl | ⟨q, hq⟩
  · rfl
  · rw [hp] at hlt; simp at hlt; omega
  · obtain ⟨x, hx⟩ := tail_of_tail hp hq (by simp; omega)
    exact absurd (by rw [hx]; simp) ha

/-- what the lookup hands back -/
def Res (kv : List (ByteArray × ByteArray)) (name : List UInt8) (v : ByteArray) (ok : Bool) : Prop :=
  (ok = true ∧ ∃ s, LS name s ∧ look kv s = some v ∧ ∀ t, LS name t → s.length < t.length → look kv t = none) ∨
  (ok = false ∧ v = ByteArray.empty ∧ ∀ t, LS name t → look kv t = none)

/-- the suffix loop's relation -/
def Cur (kv : List (ByteArray × ByteArray)) (name s : List UInt8) : Prop := LS name s ∧ ∀ t, LS name t → s.length < t.length → look kv t = none

theorem Cur.start (kv : List (ByteArray × ByteArray)) (name : List UInt8) : Cur kv name name :=
  ⟨Or.inr (Or.inl rfl), fun t ht hlt => absurd ht.length (by omega)⟩

theorem Cur.hit {kv : List (ByteArray × ByteArray)} {name s : List UInt8} {v : ByteArray} (h : Cur kv name s) (hl : look kv s = some v) : Res kv name v true :=
  Or.inl ⟨rfl, s, h.1, hl, h.2⟩

theorem Cur.none_empty {kv : List (ByteArray × ByteArray)} {name : List UInt8} (h : Cur kv name []) (hl : look kv [] = none) : Res kv name ByteArray.empty false :=
  Or.inr ⟨rfl, rfl, fun t ht => by
    rcases Nat.eq_zero_or_pos t.length with h0 | h0
    · rw [List.length_eq_zero_iff.1 h0]; exact hl
    · exact h.2 t ht (by simpa using h0)⟩

theorem Cur.dot {kv : List (ByteArray × ByteArray)} {name s a r : List UInt8} (h : Cur kv name s) (hl : look kv s = none) (he : s = a ++ 46 :: r) (ha : (46 : UInt8) ∉ a) : Cur kv name r := by
  have hn := next_dot h.1 he ha
  refine ⟨hn.1, fun t ht hlt => ?_⟩
  rcases Nat.lt_trichotomy s.length t.length with h1 | h1 | h1
  · exact h.2 t ht h1
  · rw [← h.1.same ht h1]; exact hl
  · exact absurd (hn.2 t ht h1) (by omega)

theorem Cur.last {kv : List (ByteArray × ByteArray)} {name s : List UInt8} (h : Cur kv name s) (hl : look kv s = none) (ha : (46 : UInt8) ∉ s) : Cur kv name [] := by
  refine ⟨Or.inl rfl, fun t ht hlt => ?_⟩
  rcases Nat.lt_trichotomy s.length t.length with h1 | h1 | h1
  · exact h.2 t ht h1
  · rw [← h.1.same ht h1]; exact hl
  · rw [next_none h.1 ha t ht h1] at hlt
    simp at hlt

/-- the law's own loop, after j rounds -/
def Best (kv : List (ByteArray × ByteArray)) (name : List UInt8) (best : Int) (want : ByteArray) : Prop :=
  (best = -1 ∧ want = ByteArray.empty ∧ ∀ p ∈ kv, ¬ LS name p.1.data.toList) ∨
  ∃ t, LS name t ∧ best = t.length ∧ look kv t = some want ∧ ∀ p ∈ kv, LS name p.1.data.toList → p.1.data.toList.length ≤ t.length

theorem Best.start (name : List UInt8) : Best [] name (-1) ByteArray.empty := Or.inl ⟨rfl, rfl, by simp⟩

theorem Best.take {kv : List (ByteArray × ByteArray)} {name : List UInt8} {best : Int} {want k v : ByteArray} (h : Best kv name best want) (hk : LS name k.data.toList) (hb : best ≤ k.data.toList.length) :
    Best (kv ++ [(k, v)]) name k.data.toList.length v := by
  refine Or.inr ⟨_, hk, rfl, by rw [look_snoc]; simp, fun p hp hl => ?_⟩
  rcases List.mem_append.1 hp with hp | hp
  · rcases h with ⟨_, _, hn⟩ | ⟨t, _, e, _, hm⟩
    · exact absurd hl (hn p hp)
    · have := hm p hp hl
      omega
  · simp at hp; subst hp; exact Nat.le_refl _

theorem Best.miss {kv : List (ByteArray × ByteArray)} {name : List UInt8} {best : Int} {want k v : ByteArray} (h : Best kv name best want) (hk : ¬ LS name k.data.toList) :
    Best (kv ++ [(k, v)]) name best want := by
  rcases h with ⟨e1, e2, hn⟩ | ⟨t, ht, e, hl, hm⟩
  · refine Or.inl ⟨e1, e2, fun p hp => ?_⟩
    rcases List.mem_append.1 hp with hp | hp
    · exact hn p hp
    · simp at hp; subst hp; exact hk
  · refine Or.inr ⟨t, ht, e, ?_, fun p hp hl => ?_⟩
    · rw [look_snoc, if_neg (fun h => hk (by rw [h]; exact ht))]; exact hl
    · rcases List.mem_append.1 hp with hp | hp
      · exact hm p hp hl
      · simp at hp; subst hp; exact absurd hl hk

theorem Best.small {kv : List (ByteArray × ByteArray)} {name : List UInt8} {best : Int} {want k v : ByteArray} (h : Best kv name best want) (hb : (k.data.toList.length : Int) < best) :
    Best (kv ++ [(k, v)]) name best want := by
  rcases h with ⟨e1, e2, hn⟩ | ⟨t, ht, e, hl, hm⟩
  · omega
  · refine Or.inr ⟨t, ht, e, ?_, fun p hp hl => ?_⟩
    · rw [look_snoc, if_neg (fun h => by rw [h] at hb; omega)]; exact hl
    · rcases List.mem_append.1 hp with hp | hp
      · exact hm p hp hl
      · simp at hp; subst hp; show k.data.toList.length ≤ _; omega

theorem Best.range {kv : List (ByteArray × ByteArray)} {name : List UInt8} {best : Int} {want : ByteArray} (h : Best kv name best want) : -1 ≤ best ∧ best ≤ name.length := by
  rcases h with ⟨e1, _⟩ | ⟨t, ht, e, _⟩
  · omega
  · have := ht.length; omega

/-- THE LAW: none matches -/
theorem law_none {kv : List (ByteArray × ByteArray)} {name : List UInt8} {best : Int} {want v : ByteArray} {ok : Bool} (hr : Res kv name v ok) (h : Best kv name best want) (hb : best < 0) : ok = false ∧ v = ByteArray.empty := by
  rcases h with ⟨_, _, hn⟩ | ⟨t, _, e, _⟩
  · rcases hr with ⟨_, s, hs, hl, _⟩ | ⟨e1, e2, _⟩
    · obtain ⟨p, hp, e⟩ := look_mem kv s v hl
      exact absurd (by rw [e]; exact hs) (hn p hp)
    · exact ⟨e1, e2⟩
  · omega

/-- THE LAW: the longest one's value -/
theorem law_some {kv : List (ByteArray × ByteArray)} {name : List UInt8} {best : Int} {want v : ByteArray} {ok : Bool} (hr : Res kv name v ok) (h : Best kv name best want) (hb : 0 ≤ best) : ok = true ∧ v = want := by
  rcases h with ⟨e, _⟩ | ⟨t, ht, e, hl, hm⟩
  · omega
  · rcases hr with ⟨e1, s, hs, hls, hlong⟩ | ⟨_, _, hn⟩
    · obtain ⟨p, hp, ep⟩ := look_mem kv s v hls
      have h1 := hm p hp (by rw [ep]; exact hs)
      rw [ep] at h1
      have h2 : ¬ s.length < t.length := fun hlt => by rw [hlong t ht hlt] at hl; cases hl
      have hst : s = t := hs.same ht (by omega)
      subst hst
      rw [hls] at hl
      exact ⟨e1, Option.some.inj hl⟩
    · rw [hn t ht] at hl; cases hl

/-- the Go text of zzEndsWithLabels -/
def ends (name k : List UInt8) : Bool := k == [] || k == name || (decide (k.length < name.length) && (name.getD (name.length - k.length - 1) 0 == 46) && (name.drop (name.length - k.length) == k))

theorem ends_iff (name k : List UInt8) : ends name k = true ↔ LS name k := by
  unfold ends LS
  simp only [Bool.or_eq_true, beq_iff_eq, Bool.and_eq_true, decide_eq_true_eq]
  constructor
  · rintro ((h | h) | ⟨⟨h1, h2⟩, h3⟩)
    · exact Or.inl h
    · exact Or.inr (Or.inl h)
    · refine Or.inr (Or.inr ⟨name.take (name.length - k.length - 1), ?_⟩)
      have e1 : name = name.take (name.length - k.length - 1) ++ name.drop (name.length - k.length - 1) := (List.take_append_drop _ _).symm
      have hlt : name.length - k.length - 1 < name.length := by omega
      have e2 : name.drop (name.length - k.length - 1) = name[name.length - k.length - 1] :: name.drop (name.length - k.length - 1 + 1) := List.drop_eq_getElem_cons hlt
      have e3 : name[name.length - k.length - 1] = 46 := by
        rw [List.getD_eq_getElem?_getD, List.getElem?_eq_getElem hlt] at h2
        exact h2
      rw [e3, show name.length - k.length - 1 + 1 = name.length - k.length by omega, h3] at e2
      rw [e2] at e1
      exact e1
  · rintro (h | h | ⟨pre, h⟩)
    · exact Or.inl (Or.inl h)
    · exact Or.inl (Or.inr h)
    · right
      subst h
      have hl : (pre ++ 46 :: k).length - k.length = pre.length + 1 := by simp; omega
      rw [hl]
      refine ⟨⟨by simp; omega, ?_⟩, ?_⟩
      · rw [List.getD_eq_getElem?_getD, show pre.length + 1 - 1 = pre.length by omega]; simp
      · rw [show pre ++ 46 :: k = (pre ++ [46]) ++ k by simp, List.drop_append_of_le_length (by simp)]
        simp

theorem ends_false {name k : List UInt8} (h : ends name k = false) : ¬ LS name k := fun hl => by
  rw [(ends_iff name k).2 hl] at h; cases h

/-- the first dot -/
theorem indexByte_some : ∀ (l : List UInt8) (c : UInt8) (d : Nat), Lib.indexByte l c = (d : Int) → d < l.length ∧ l = l.take d ++ c :: l.drop (d + 1) ∧ c ∉ l.take d
  | [], c, d, h => by simp [Lib.indexByte] at h
  | b :: r, c, d, h => by
    simp only [Lib.indexByte] at h
    by_cases hb : b = c
    · subst hb
      simp at h
      have hd : d = 0 := by omega
      subst hd
      simp
    · have hb' : (b == c) = false := by simpa using hb
      have hg := Lib.indexByte_ge r c
      simp only [hb'] at h
      by_cases h1 : Lib.indexByte r c = -1
      · simp [h1] at h
      · have h1' : (Lib.indexByte r c == -1) = false := by simpa using h1
        simp only [h1'] at h
        simp at h
        obtain ⟨d', hd'⟩ : ∃ d' : Nat, d = d' + 1 := ⟨d - 1, by omega⟩
        subst hd'
        obtain ⟨i1, i2, i3⟩ := indexByte_some r c d' (by omega)
        refine ⟨by simp; omega, ?_, ?_⟩
        · rw [List.take_succ_cons, List.drop_succ_cons, List.cons_append, ← i2]
        · rw [List.take_succ_cons]
          simp only [List.mem_cons, not_or]
          exact ⟨fun e => hb e.symm, i3⟩

theorem indexByte_none : ∀ (l : List UInt8) (c : UInt8), Lib.indexByte l c < 0 → c ∉ l
  | [], c, _ => by simp
  | b :: r, c, h => by
    have ih := indexByte_none r c
    have hg := Lib.indexByte_ge r c
    simp only [Lib.indexByte] at h
    by_cases hb : b = c
    · subst hb; simp at h
    · have hb' : (b == c) = false := by simpa using hb
      simp only [hb'] at h
      by_cases h1 : Lib.indexByte r c = -1
      · simp only [List.mem_cons, not_or]
        exact ⟨fun e => hb e.symm, ih (by omega)⟩
      · have h1' : (Lib.indexByte r c == -1) = false := by simpa using h1
        simp only [h1'] at h
        simp at h
        omega

end Go.Proofs.Qxb6603108a.LookP
