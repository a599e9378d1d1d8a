/-
  THE PLAIN LAWS of seat b6603805a: rising lists, the meet of two clocks as a filter. No Go in sight.
-/
import Derived.Below
namespace Go.Proofs.Qxb6603805a
namespace Plain

/-- Strictly increasing. -/
def Rise (s : List Int) : Prop := ∀ k (h : k + 1 < s.length), s[k] < s[k + 1]

theorem Rise.lt {s : List Int} (h : Rise s) : ∀ (d i : Nat) (hj : i + d + 1 < s.length), s[i] < s[i + d + 1] := by
  intro d
  induction d with
  | zero => intro i hj; exact h i hj
  | succ d ih =>
    intro i hj
    have h1 := ih i (by omega)
    have h2 := h (i + d + 1) (by omega)
    exact Int.lt_trans h1 h2

theorem Rise.mono {s : List Int} (h : Rise s) {i j : Nat} (hij : i < j) (hj : j < s.length) : s[i] < s[j] := by
  have := h.lt (j - i - 1) i (by omega)
  have e : i + (j - i - 1) + 1 = j := by omega
  simpa [e] using this

theorem Rise.inj {s : List Int} (h : Rise s) {i j : Nat} (hi : i < s.length) (hj : j < s.length) (e : s[i] = s[j]) : i = j := by
  rcases Nat.lt_trichotomy i j with h1 | h1 | h1
  · have := h.mono h1 hj; omega
  · exact h1
  · have := h.mono h1 hi; omega

theorem rise_iff (s : List Int) : Rise s ↔ s.Pairwise (· < ·) := by
  constructor
  · intro h
    rw [List.pairwise_iff_getElem]
    intro i j hi hj hij
    exact h.mono hij hj
  · intro h k hk
    exact List.pairwise_iff_getElem.1 h k (k + 1) (by omega) hk (by omega)

/-- The index of x in s, or -1. -/
def Found (s : List Int) (x r : Int) : Prop := (∃ i, ∃ h : i < s.length, s[i] = x ∧ r = (i : Int)) ∨ ((∀ i (h : i < s.length), s[i] ≠ x) ∧ r = -1)

/-- What D holds for the writer w. -/
def look (D : List (Int × Int)) (w : Int) : Option Int := (D.find? fun y => y.1 == w).map (·.2)
/-- One writer of the meet. -/
def one (D : List (Int × Int)) (x : Int × Int) : Option (Int × Int) := (look D x.1).map fun d => (x.1, min x.2 d)
/-- The meet. -/
def meet (C D : List (Int × Int)) : List (Int × Int) := C.filterMap (one D)

theorem look_none {D : List (Int × Int)} {w : Int} (h : ∀ q (hq : q < D.length), D[q].1 ≠ w) : look D w = none := by
  unfold look
  rw [Option.map_eq_none_iff, List.find?_eq_none]
  intro y hy
  obtain ⟨q, hq, rfl⟩ := List.getElem_of_mem hy
  simpa using h q hq

theorem find_at {α : Type} (p : α → Bool) : ∀ (l : List α) (j : Nat) (hj : j < l.length), (∀ q (hq : q < j), p (l[q]'(by omega)) = false) → p l[j] = true → l.find? p = some l[j]
  | [], j, hj, _, _ => by simp at hj
  | a :: l, 0, _, _, h1 => by simp at h1; simp [h1]
  | a :: l, j + 1, hj, h0, h1 => by
    have e : p a = false := by simpa using h0 0 (by omega)
    rw [List.find?_cons, e]
    have := find_at p l j (by simpa using hj) (fun q hq => by simpa using h0 (q + 1) (by omega)) (by simpa using h1)
    simpa using this

theorem look_some {D : List (Int × Int)} {w : Int} {j : Nat} (hj : j < D.length) (h0 : ∀ q (hq : q < j), D[q].1 ≠ w) (h1 : D[j].1 = w) : look D w = some D[j].2 := by
  unfold look
  rw [find_at (fun y => y.1 == w) D j hj (fun q hq => by simpa using h0 q hq) (by simpa using h1)]
  rfl

theorem look_isSome {D : List (Int × Int)} {w v : Int} (h : look D w = some v) : ∃ q, ∃ hq : q < D.length, D[q].1 = w ∧ D[q].2 = v := by
  unfold look at h
  obtain ⟨y, hy, rfl⟩ := Option.map_eq_some_iff.1 h
  have h1 := List.find?_some hy
  obtain ⟨q, hq, rfl⟩ := List.getElem_of_mem (List.mem_of_find?_eq_some hy)
  exact ⟨q, hq, by simpa using h1, rfl⟩

section
variable (cw cc dw dc : List Int) (hc : cw.length = cc.length) (hd : dw.length = dc.length)

/-- A clock of two columns. -/
def clock (w c : List Int) : List (Int × Int) := w.zip c

theorem clock_length (w c : List Int) (h : w.length = c.length) : (clock w c).length = w.length := by simp [clock, h]
theorem clock_fst (w c : List Int) (h : w.length = c.length) : (clock w c).map (·.1) = w := by
  unfold clock
  rw [← List.unzip_fst, List.unzip_zip h]
theorem clock_get (w c : List Int) (i : Nat) (hw : i < w.length) (hc : i < c.length) (h : i < (clock w c).length) : (clock w c)[i] = (w[i], c[i]) := by simp [clock]

/-- What the loop of 'meet' keeps: all of D before j is below what is left of C. -/
def Sep (C D : List (Int × Int)) (i j : Nat) : Prop := ∀ q (_ : q < j) (hq : q < D.length) (hi : i < C.length), D[q].1 < C[i].1
end

/-- A clock's writers rise. -/
def RiseC (C : List (Int × Int)) : Prop := ∀ i j (_ : i < j) (hj : j < C.length), C[i].1 < C[j].1

theorem riseC_of {w c : List Int} (h : w.length = c.length) (hr : Rise w) : RiseC (clock w c) := by
  intro i j hij hj
  have hl := clock_length w c h
  rw [clock_get w c i (by omega) (by omega) (by omega), clock_get w c j (by omega) (by omega) hj]
  exact hr.mono hij (by omega)

section
variable {C D : List (Int × Int)} {i j : Nat}

theorem Sep.start : Sep C D 0 0 := fun q h _ _ => by omega
theorem Sep.left (hC : RiseC C) (h : Sep C D i j) : Sep C D (i + 1) j := fun q h1 hq hi => Int.lt_trans (h q h1 hq (by omega)) (hC i (i + 1) (by omega) hi)
theorem Sep.right (h : Sep C D i j) (hj : j < D.length) (hi : i < C.length) (hlt : D[j].1 < C[i].1) : Sep C D i (j + 1) := fun q h1 hq hi' => by
  by_cases e : q = j
  · subst e; exact hlt
  · exact h q (by omega) hq hi'
theorem Sep.both (hC : RiseC C) (h : Sep C D i j) (hj : j < D.length) (hi : i < C.length) (he : C[i].1 = D[j].1) : Sep C D (i + 1) (j + 1) := fun q h1 hq hi' => by
  have h2 := hC i (i + 1) (by omega) hi'
  by_cases e : q = j
  · subst e; omega
  · have := h q (by omega) hq hi; omega

/-- The writer of C[i] is below D[j]: D has it not. -/
theorem miss (hD : RiseC D) (h : Sep C D i j) (hj : j < D.length) (hi : i < C.length) (hlt : C[i].1 < D[j].1) : look D C[i].1 = none := by
  apply look_none
  intro q hq e
  by_cases h1 : q < j
  · have := h q h1 hq hi; omega
  · by_cases h2 : q = j
    · subst h2; omega
    · have := hD j q (by omega) hq; omega
/-- .. is D[j]'s. -/
theorem hit (h : Sep C D i j) (hj : j < D.length) (hi : i < C.length) (he : C[i].1 = D[j].1) : look D C[i].1 = some D[j].2 := by
  apply look_some hj
  · intro q hq e
    have := h q hq (by omega) hi; omega
  · exact he.symm
/-- D is at its end. -/
theorem done (hC : RiseC C) (h : Sep C D i D.length) : meet (C.take i) D = meet C D := by
  unfold meet
  have e : C.filterMap (one D) = (C.take i).filterMap (one D) ++ (C.drop i).filterMap (one D) := by rw [← List.filterMap_append, List.take_append_drop]
  rw [e]
  have : (C.drop i).filterMap (one D) = [] := by
    rw [List.filterMap_eq_nil_iff]
    intro a ha
    obtain ⟨k, hk, rfl⟩ := List.getElem_of_mem ha
    rw [List.length_drop] at hk
    rw [List.getElem_drop]
    have hl : look D C[i + k].1 = none := by
      apply look_none
      intro q hq e
      have h1 := h q hq hq (by omega)
      by_cases hk0 : k = 0
      · subst hk0; simp at e; omega
      · have := hC i (i + k) (by omega) (by omega); omega
    simp [one, hl]
  rw [this, List.append_nil]

theorem meet_snoc_none (hi : i < C.length) (h : look D C[i].1 = none) : meet (C.take (i + 1)) D = meet (C.take i) D := by
  unfold meet
  rw [List.take_succ_eq_append_getElem hi, List.filterMap_append]
  simp [one, h]
theorem meet_snoc_some (hi : i < C.length) {v : Int} (h : look D C[i].1 = some v) : meet (C.take (i + 1)) D = meet (C.take i) D ++ [(C[i].1, min C[i].2 v)] := by
  unfold meet
  rw [List.take_succ_eq_append_getElem hi, List.filterMap_append]
  simp [one, h]
theorem meet_length_le : (meet (C.take i) D).length ≤ i := by
  unfold meet
  have h1 := List.length_filterMap_le (one D) (C.take i)
  have h2 := List.length_take_le i C
  omega

/-- The meet's writers rise. -/
theorem meet_rise (hC : RiseC C) : Rise ((meet C D).map (·.1)) := by
  rw [rise_iff]
  have e : (meet C D).map (·.1) = (C.map (·.1)).filter fun w => (look D w).isSome := by
    unfold meet
    induction C with
    | nil => rfl
    | cons x C ih =>
      have hC' : RiseC C := fun i j hij hj => by
        have := hC (i + 1) (j + 1) (by omega) (by simpa using hj)
        simpa using this
      rw [List.filterMap_cons, List.map_cons, List.filter_cons]
      cases h : look D x.1 with
      | none => simp [one, h]; simpa [one] using ih hC'
      | some v => simp [one, h]; simpa [one] using ih hC'
  rw [e]
  apply List.Pairwise.filter
  rw [List.pairwise_iff_getElem]
  intro i j hi hj hij
  simp only [List.getElem_map]
  exact hC i j hij (by simpa using hj)

/-- Where each writer of the meet comes from. -/
theorem meet_from {k : Nat} (hk : k < (meet C D).length) : ∃ p, ∃ hp : p < C.length, ∃ q, ∃ hq : q < D.length, C[p].1 = (meet C D)[k].1 ∧ D[q].1 = (meet C D)[k].1 ∧ (meet C D)[k].2 = min C[p].2 D[q].2 := by
  have hm : (meet C D)[k] ∈ C.filterMap (one D) := List.getElem_mem hk
  obtain ⟨a, ha, h1⟩ := List.mem_filterMap.1 hm
  obtain ⟨p, hp, rfl⟩ := List.getElem_of_mem ha
  unfold one at h1
  obtain ⟨v, hv, he⟩ := Option.map_eq_some_iff.1 h1
  obtain ⟨q, hq, e1, e2⟩ := look_isSome hv
  refine ⟨p, hp, q, hq, ?_, ?_, ?_⟩
  · rw [← he]
  · rw [← he]; exact e1
  · rw [← he, e2]
end

/-- In columns: what the law asks of each writer of the meet. -/
theorem meet_cols {cw cc dw dc : List Int} (hc : cw.length = cc.length) (hd : dw.length = dc.length) (hcr : Rise cw) (hdr : Rise dw) {k : Nat} (hk : k < (meet (clock cw cc) (clock dw dc)).length) {r s : Int}
    (hr : Found cw (meet (clock cw cc) (clock dw dc))[k].1 r) (hs : Found dw (meet (clock cw cc) (clock dw dc))[k].1 s) :
    ∃ p, ∃ hp : p < cc.length, ∃ q, ∃ hq : q < dc.length, r = (p : Int) ∧ s = (q : Int) ∧ (meet (clock cw cc) (clock dw dc))[k].2 = min cc[p] dc[q] := by
  obtain ⟨p, hp, q, hq, e1, e2, e3⟩ := meet_from hk
  have hlc := clock_length cw cc hc
  have hld := clock_length dw dc hd
  rw [clock_get cw cc p (by omega) (by omega) hp] at e1 e3
  rw [clock_get dw dc q (by omega) (by omega) hq] at e2 e3
  simp only at e1 e2 e3
  refine ⟨p, by omega, q, by omega, ?_, ?_, e3⟩
  · rcases hr with ⟨i, h, e, rfl⟩ | ⟨h, _⟩
    · have := hcr.inj (i := i) (j := p) h (by omega) (by rw [e, e1])
      rw [this]
    · exact absurd e1 (h p (by omega))
  · rcases hs with ⟨i, h, e, rfl⟩ | ⟨h, _⟩
    · have := hdr.inj (i := i) (j := q) h (by omega) (by rw [e, e2])
      rw [this]
    · exact absurd e2 (h q (by omega))

/-- .. and how many there are. -/
theorem meet_count {cw cc dw dc : List Int} (hc : cw.length = cc.length) (hd : dw.length = dc.length) {i : Nat} (hi : i < cw.length) {r : Int} (hr : Found dw cw[i] r) :
    (0 ≤ r ∧ (meet ((clock cw cc).take (i + 1)) (clock dw dc)).length = (meet ((clock cw cc).take i) (clock dw dc)).length + 1) ∨
    (r = -1 ∧ (meet ((clock cw cc).take (i + 1)) (clock dw dc)).length = (meet ((clock cw cc).take i) (clock dw dc)).length) := by
  have hlc := clock_length cw cc hc
  have hld := clock_length dw dc hd
  have hic : i < (clock cw cc).length := by omega
  have e0 : (clock cw cc)[i].1 = cw[i] := by rw [clock_get cw cc i (by omega) (by omega) hic]
  rcases hr with ⟨q, h, e, rfl⟩ | ⟨h, rfl⟩
  · left
    refine ⟨by omega, ?_⟩
    cases hl : look (clock dw dc) (clock cw cc)[i].1 with
    | some v => rw [meet_snoc_some hic hl]; simp
    | none =>
      exfalso
      unfold look at hl
      rw [Option.map_eq_none_iff, List.find?_eq_none] at hl
      have := hl (clock dw dc)[q] (List.getElem_mem (by omega))
      rw [clock_get dw dc q h (by omega) (by omega), e0] at this
      simp [e] at this
  · right
    refine ⟨rfl, ?_⟩
    rw [meet_snoc_none hic]
    apply look_none
    intro q hq
    rw [clock_get dw dc q (by omega) (by omega) hq, e0]
    exact h q (by omega)

end Plain
end Go.Proofs.Qxb6603805a
