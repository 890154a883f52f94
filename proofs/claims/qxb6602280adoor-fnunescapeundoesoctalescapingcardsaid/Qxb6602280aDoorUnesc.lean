import Derived.Test.Qxb6602280aDoorParse
import Derived.Test.Qxb6602280aDoorPlain
import Derived.Test.Qxb6602280aDoorShelf
import Derived.WalkSpells
import Derived.Laws.Externs
import Derived.Lib.Bytealg
import Derived.Lib.Walk
import Derived.Lib.Hide
import Derived.Lib.Builder
namespace Go.Proofs.Qxb6602280aDoor
open Go.RowKit Plain

set_option maxHeartbeats 1000000 in
set_option maxRecDepth 100000 in
theorem index_in (s : ByteArray) (c : Int) (w : World) :
    Calls Tryd.prog 52 #[.string s, .int .u8 c] w fun e w' => e = .returned (.int .i64 (Lib.indexByte s.data.toList c.toNat.toUInt8)) ∧ w' = w := by
  go_enter Tryd.func52, Tryd.ntmps52
  go_wp2
  rw [run_callFunc_extern Tryd.func65 (by kernel_rfl) (by kernel_rfl) (by kernel_rfl) (e := Extern.BytealgIndexByte.indexByte) (by kernel_rfl), Lib.run_indexByteString]
  simp only [Result.andThen]
  rw [Oper.upon_value]
  go_wp2
  go_ret
  exact ⟨rfl, rfl⟩

set_option maxHeartbeats 1000000 in
set_option maxRecDepth 100000 in
theorem index_one (s : ByteArray) (w : World) :
    Calls Tryd.prog 36 #[.string s, .string ⟨#[92]⟩] w fun e w' => e = .returned (.int .i64 (Lib.indexByte s.data.toList 92)) ∧ w' = w := by
  by_cases hq : s.data.toList = [92]
  · have hb : (([92] : List UInt8) == s.toList) = true := by rw [Lib.toList_data, hq]; rfl
    have hf : Lib.indexByte s.data.toList 92 = 0 := by rw [hq]; rfl
    rw [hf]
    clear hf hq
    go_enter Tryd.func36, Tryd.ntmps36
    go_wp2
    go_ret
    exact ⟨rfl, rfl⟩
  · have hb : (([92] : List UInt8) == s.toList) = false := by rw [Lib.toList_data]; simpa using fun h => hq h.symm
    clear hq
    go_enter Tryd.func36, Tryd.ntmps36
    go_wp2_with (go_at_call 52; refine (index_in _ _ _).mono ?_; rintro e w' ⟨rfl, rfl⟩)
    go_ret
    exact ⟨rfl, rfl⟩

set_option maxHeartbeats 1000000 in
set_option maxRecDepth 100000 in
theorem contains_one (s : ByteArray) (w : World) :
    Calls Tryd.prog 23 #[.string s, .string ⟨#[92]⟩] w fun e w' => e = .returned (.bool (decide (0 ≤ Lib.indexByte s.data.toList 92))) ∧ w = w' := by
  go_enter Tryd.func23, Tryd.ntmps23
  go_wp2_with (first | (go_at_call 36; refine (index_one _ _).mono ?_; rintro e w' ⟨rfl, rfl⟩) | go_in)
  go_ret
  exact ⟨rfl, rfl⟩

/-- A builder stands as it stood where nothing that was there has turned. -/
theorem builder_below {T e : TypeId} {B b : Nat} {bs : List Value} {w w' : World} (h : Lib.IsBuilder T e B b bs w) (hb : Below w.heap.size w w') : Lib.IsBuilder T e B b bs w' := by
  have hg : w.grownBy w' none := ⟨hb.os, hb.tape, hb.output, hb.size, fun k hk _ => hb.block k hk⟩
  have one : ∀ p, Lib.BuilderAt T e B b p bs w → Lib.BuilderAt T e B b p bs w' := by
    intro p h
    have hlt := h.lt
    obtain ⟨hB, v, hv, hown, hne⟩ := h
    exact ⟨hB, v, (hb.block b hlt).trans hv, hown.kept hg (by cases hvb : v.ownBlock <;> simp), hne⟩
  rcases h with h | h
  · exact Or.inl (one _ h)
  · exact Or.inr (one _ h)

theorem indexByte_none : ∀ (l : List UInt8), Lib.indexByte l 92 < 0 → (92 : UInt8) ∉ l
  | [], _ => by simp
  | b :: r, h => by
    have ih := indexByte_none r
    have hg := Lib.indexByte_ge r 92
    simp only [Lib.indexByte] at h
    by_cases hb : (b == 92) = true
    · simp [hb] at h
    · simp only [hb] at h
      by_cases h1 : (Lib.indexByte r 92 == -1) = true
      · have h2 : Lib.indexByte r 92 < 0 := by have := beq_iff_eq.1 h1; omega
        have hne : b ≠ 92 := by simpa using hb
        simp only [List.mem_cons, not_or]
        exact ⟨fun e => hne e.symm, ih h2⟩
      · simp only [h1] at h
        have : Lib.indexByte r 92 ≠ -1 := by simpa using h1
        simp at h
        omega

theorem getD_ba (l : List UInt8) (i : Nat) (h : i < (ByteArray.mk l.toArray).size) : (ByteArray.mk l.toArray)[i] = l.getD i 0 := by
  have h' : i < l.length := by simpa [ByteArray.size] using h
  show l.toArray[i] = _
  simp [List.getD, h']

set_option maxHeartbeats 4000000 in
set_option maxRecDepth 100000 in
theorem unescape_enc (ev : Bool) (x : List UInt8) (hx : x.length ≤ 262144) (w : World) :
    Calls Tryd.prog 20 #[.string ⟨(enc ev x).toArray⟩] w fun e w' => e = .returned (.string ⟨x.toArray⟩) ∧ Below w.heap.size w w' := by
  obtain ⟨s, hs⟩ : ∃ s : ByteArray, s = ⟨(enc ev x).toArray⟩ := ⟨_, rfl⟩
  have hsz : s.size = (enc ev x).length := by rw [hs]; simp [ByteArray.size]
  have hget : ∀ i (h : i < s.size), s[i] = (enc ev x).getD i 0 := by subst hs; exact fun i h => getD_ba _ i h
  have hdat : s.data.toList = enc ev x := by rw [hs]
  rw [← hs]
  have hel := enc_len ev x
  by_cases hc : 0 ≤ Lib.indexByte s.data.toList 92
  · have HS := Lib.hid (And.intro hsz (And.intro hget hdat))
    have hbound : s.size ≤ 1048576 := by omega
    clear hs hsz hget hdat
    go_enter Tryd.func20, Tryd.ntmps20
    go_wp2_with (go_at_call 23; refine (contains_one _ _).mono ?_; rintro e w' ⟨rfl, rfl⟩)
    go_loopw [4] (fun i wr => ∃ k : Nat, k ≤ x.length ∧ i = .int .i64 (pos ev x k : Nat) ∧ Lib.IsBuilder 39 5 w.heap.size w.heap.size (Lib.byteCells (x.take k)) wr ∧ Below w.heap.size w wr) (fun i _ => s.size - (intOf i).toNat)
    case atStart =>
      refine ⟨0, Nat.zero_le _, by rw [pos_zero]; rfl, Or.inl ⟨Nat.le_refl _, .slice none 0 0, ?_, ?_, by simp [Value.ownBlock]⟩, (Below.refl _ _).alloc (Nat.le_refl _) _⟩
      · exact (MapKept.heap_alloc w _).1
      · exact World.ownsRow_nil _ _ _ _
    case round =>
      obtain ⟨k, hk, rfl, hbk, hbel⟩ := hrel
      have hsize := HS.out.1
      have hsz := hbel.size
      have hmx := pos_le4 ev x k
      generalize hp : pos ev x k = p at *
      have HQ := Lib.hid hp
      by_cases hlt : k < x.length
      · have hlen : (Lib.byteCells (x.take k)).length + 1 ≤ 140737488355328 := by rw [Lib.byteCells_length, List.length_take]; omega
        have htk : Lib.byteCells (x.take (k + 1)) = Lib.byteCells (x.take k) ++ [.int .u8 (x[k].toNat : Int)] := by
          rw [List.take_succ_eq_append_getElem hlt, Lib.byteCells_append]; rfl
        cases hh : hit ev x[k] with
        | true =>
          obtain ⟨p1, p2, g0, g1, g2, g3⟩ := at_hit ev x k hlt hh
          rw [hp] at p1 p2 g0 g1 g2 g3
          have hi0 : p < s.size := by omega
          have hi3 : p + 3 < s.size := by omega
          have hi4 : p + 4 ≤ s.size := by omega
          have e0 : s[p] = 92 := (HS.out.2.1 p hi0).trans g0
          have hne : ((s[p].toNat : Int) == 92) = true := by rw [e0]; rfl
          have hsub : (s.extract (p + 1) (p + 4)).size = 3 := by simp [ByteArray.size_extract]; omega
          have hdg : ∀ j, j < 3 → ((s.extract (p + 1) (p + 4)).data.toList.getD j 0).toNat = 48 + dg x[k] j ∧ dg x[k] j ≤ 7 := by
            have o1n := o1_nat x[k]
            have o2n := o2_nat x[k]
            have o3n := o3_nat x[k]
            have hd := HS.out.2.2
            intro j hj
            have hex : (s.extract (p + 1) (p + 4)).data.toList.getD j 0 = (enc ev x).getD (p + 1 + j) 0 := by
              rw [← hd, Lib.extract_data]
              have h1 : j < 3 := hj
              simp only [List.getD_eq_getElem?_getD]
              rw [List.getElem?_take_of_lt (by omega), List.getElem?_drop]
            rw [hex]
            match j, hj with
            | 0, _ => rw [Nat.add_zero, g1]; exact o1n
            | 1, _ => rw [show p + 1 + 1 = p + 2 from rfl, g2]; exact o2n
            | 2, _ => rw [show p + 1 + 2 = p + 3 from rfl, g3]; exact o3n
          have HN := Lib.hid (fun W => parse_out (s.extract (p + 1) (p + 4)) 3 hsub (by decide) (by decide) (dg x[k]) (vl x[k]) hdg (vl_zero _) (vl_succ _) (vl_le _) W)
          have HP := Lib.hid (And.intro p1 htk)
          have hc255 : x[k].toNat < 256 := x[k].toNat_lt
          clear p1 p2 g0 g1 g2 g3 hh htk e0 hsize hp hdg hsub
          go_wp2_with fail
          refine (HN.out _).mono ?_
          rintro e w2 ⟨rfl, hb2⟩
          rw [vl_three]
          have hbk2 := builder_below hbk hb2
          have hb3 := hbel.trans (hb2.mono hsz)
          have hsz2 := hb3.size
          clear hb2 hbk
          go_wp2_with fail
          refine (Tryd.Builder_WriteByte _ _ _ _ _ hbk2 hlen hsz2).mono ?_
          rintro e w3 ⟨rfl, hbk3, hb4⟩
          have hb5 := hb3.trans hb4
          clear hbk2 hb4
          go_wp2
          go_roundw
          case rel => exact ⟨k + 1, by omega, by rw [HP.out.1]; go_num, by rw [HP.out.2]; exact Or.inr hbk3, hb5⟩
          case measure => simp [intOf]; omega
        | false =>
          obtain ⟨p1, p2, g0, g1⟩ := at_miss ev x k hlt hh
          rw [hp] at p1 p2 g0
          have hi1 : p < s.size := by omega
          have e0 : s[p] = x[k] := (HS.out.2.1 p hi1).trans g0
          have hne : ((s[p].toNat : Int) == 92) = false := by
            rw [e0]; simp only [beq_eq_false_iff_ne]; intro h; exact g1 (by apply UInt8.toNat_inj.1; show x[k].toNat = 92; omega)
          have HP := Lib.hid (And.intro p1 (And.intro htk e0))
          clear p1 p2 g0 g1 hh htk e0 hsize hp
          go_wp2_with fail
          refine (Tryd.Builder_WriteByte _ _ _ _ _ hbk hlen hsz).mono ?_
          rintro e w3 ⟨rfl, hbk3, hb4⟩
          have hb5 := hbel.trans hb4
          rw [HP.out.2.2] at hbk3
          clear hbk hb4
          go_wp2
          go_roundw
          case rel => exact ⟨k + 1, by omega, by rw [HP.out.1]; go_num, by rw [HP.out.2.1]; exact Or.inr hbk3, hb5⟩
          case measure => simp [intOf]; omega
      · obtain rfl : k = x.length := by omega
        have hpe : p = s.size := by rw [← hp, pos_end, hsize]
        subst hpe
        rw [List.take_length] at hbk
        clear hp hsize hmx HQ hlt
        go_wp2_with fail
        refine (Tryd.Builder_String_any _ _ _ _ hbk hsz).mono ?_
        rintro e w3 ⟨rfl, hb4⟩
        go_wp2
        go_ret
        exact ⟨rfl, hbel.trans hb4⟩
  · have hn := indexByte_none s.data.toList (by omega)
    have he : enc ev x = x := enc_none ev x (by rw [← hdat]; exact hn)
    rw [he] at hs
    have HS := Lib.hid hs
    have hc' : decide (0 ≤ Lib.indexByte s.data.toList 92) = false := by simpa using hc
    clear hs hsz hget hdat he hn hel hc
    go_enter Tryd.func20, Tryd.ntmps20
    go_wp2_with (go_at_call 23; refine (contains_one _ _).mono ?_; rintro e w' ⟨rfl, rfl⟩)
    go_ret
    exact ⟨by rw [HS.out]; rfl, Below.refl _ _⟩
end Go.Proofs.Qxb6602280aDoor
