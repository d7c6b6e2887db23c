/- The binary heap of events, plain: an event is its number k; A k is its time, P k its priority. -/
namespace Go.Proofs.Ybulkzim.Comp

/-- event.before -/
def bef (A P : Nat → Int) (x y : Nat) : Bool := if A x = A y then (if P x = P y then decide (x < y) else decide (P x < P y)) else decide (A x < A y)

section
variable {A P : Nat → Int}

theorem bef_asymm {x y : Nat} (h : bef A P x y = true) : bef A P y x = false := by
  unfold bef at *
  by_cases h1 : A x = A y
  · by_cases h2 : P x = P y
    · simp [h1, h2] at h ⊢; omega
    · have h2' : ¬ P y = P x := fun e => h2 e.symm
      simp [h1, h2, h2'] at h ⊢; omega
  · have h1' : ¬ A y = A x := fun e => h1 e.symm
    simp [h1, h1'] at h ⊢; omega

theorem bef_false_iff (x y : Nat) : bef A P y x = false ↔ A x < A y ∨ (A x = A y ∧ (P x < P y ∨ (P x = P y ∧ x ≤ y))) := by
  unfold bef
  by_cases a : A y = A x
  · by_cases b : P y = P x
    · simp [a, b]
    · rw [if_pos a, if_neg b, decide_eq_false_iff_not]; omega
  · rw [if_neg a, decide_eq_false_iff_not]; omega

theorem bef_le_trans {x y z : Nat} (h1 : bef A P y x = false) (h2 : bef A P z y = false) : bef A P z x = false := by
  rw [bef_false_iff] at *
  omega

/-- The parent's place. -/
def par (j : Nat) : Nat := (j - 1) / 2

/-- From place k on each event is not before its parent. -/
def heapFrom (A P : Nat → Int) (k : Nat) (V : List Nat) : Prop := ∀ j, 1 ≤ j → j < V.length → k ≤ par j → bef A P (V.getD j 0) (V.getD (par j) 0) = false

/-- The same but at the children of place i; and these are not before i's parent. -/
structure sift (A P : Nat → Int) (k i : Nat) (V : List Nat) : Prop where
  low : k ≤ i
  rest : ∀ j, 1 ≤ j → j < V.length → k ≤ par j → par j ≠ i → bef A P (V.getD j 0) (V.getD (par j) 0) = false
  up : ∀ j, 1 ≤ j → j < V.length → par j = i → 1 ≤ i → k ≤ par i → bef A P (V.getD j 0) (V.getD (par i) 0) = false

theorem sift_start {k : Nat} {V : List Nat} (h : heapFrom A P (k + 1) V) : sift A P k k V := by
  refine ⟨Nat.le_refl _, fun j h1 h2 h3 h4 => h j h1 h2 (by omega), fun j h1 h2 h3 h4 h5 => ?_⟩
  unfold par at h5
  omega

theorem getD_set_eq (V : List Nat) (i x : Nat) (h : i < V.length) : (V.set i x).getD i 0 = x := by simp [List.getD, h]
theorem getD_set_ne (V : List Nat) (i j x : Nat) (h : i ≠ j) : (V.set i x).getD j 0 = V.getD j 0 := by simp [List.getD, List.getElem?_set_ne h]

/-- One step down: the child c, no sibling before it, is before what stands at i: the two change places. -/
theorem sift_step {k i c e : Nat} {V : List Nat} (h : sift A P k i V) (hc : par c = i) (hc1 : 1 ≤ c) (hcl : c < V.length) (hsib : ∀ j, 1 ≤ j → j < V.length → par j = i → bef A P (V.getD j 0) (V.getD c 0) = false)
    (he : V.getD i 0 = e) (hb : bef A P (V.getD c 0) e = true) : sift A P k c ((V.set i (V.getD c 0)).set c e) := by
  have hic : i < c := by unfold par at hc; omega
  have hil : i < V.length := by omega
  have gi : ((V.set i (V.getD c 0)).set c e).getD i 0 = V.getD c 0 := by rw [getD_set_ne _ _ _ _ (by omega), getD_set_eq _ _ _ hil]
  have gc : ((V.set i (V.getD c 0)).set c e).getD c 0 = e := getD_set_eq _ _ _ (by simpa using hcl)
  have go : ∀ j, j ≠ i → j ≠ c → ((V.set i (V.getD c 0)).set c e).getD j 0 = V.getD j 0 := fun j h1 h2 => by
    rw [getD_set_ne _ _ _ _ (fun e => h2 e.symm), getD_set_ne _ _ _ _ (fun e => h1 e.symm)]
  have hl : ((V.set i (V.getD c 0)).set c e).length = V.length := by simp
  refine ⟨by have := h.low; omega, ?_, ?_⟩
  · intro j h1 h2 h3 h4
    rw [hl] at h2
    by_cases jc : j = c
    · subst jc
      rw [hc, gc, gi]
      exact bef_asymm hb
    · by_cases ji : j = i
      · subst ji
        have hp : par j ≠ j := by unfold par; omega
        have hp2 : par j ≠ c := by unfold par; omega
        rw [gi, go _ hp hp2]
        exact h.up c hc1 hcl hc h1 h3
      · rw [go j ji jc]
        by_cases pi : par j = i
        · rw [pi, gi]
          exact hsib j h1 h2 pi
        · rw [go _ pi h4]
          exact h.rest j h1 h2 h3 pi
  · intro j h1 h2 h3 h4 h5
    rw [hl] at h2
    have hj : c < j := by unfold par at h3; omega
    rw [hc, gi, go j (by omega) (by omega)]
    have := h.rest j h1 h2 (by have := h.low; omega) (by omega)
    rwa [h3] at this

/-- At the end. -/
theorem sift_end {k i e : Nat} {V : List Nat} (h : sift A P k i V) (he : V.getD i 0 = e) (hch : ∀ j, 1 ≤ j → j < V.length → par j = i → bef A P (V.getD j 0) e = false) : heapFrom A P k V := by
  intro j h1 h2 h3
  by_cases pi : par j = i
  · rw [pi, he]; exact hch j h1 h2 pi
  · exact h.rest j h1 h2 h3 pi

theorem perm_swap (V : List Nat) (i c : Nat) (hi : i < V.length) (hc : c < V.length) (_hic : i ≠ c) : List.Perm ((V.set i (V.getD c 0)).set c (V.getD i 0)) V := by
  have e1 : V.getD c 0 = V[c] := by simp [List.getD, hc]
  have e2 : V.getD i 0 = V[i] := by simp [List.getD, hi]
  rw [e1, e2]
  exact List.set_set_perm hi hc

end
end Go.Proofs.Ybulkzim.Comp
