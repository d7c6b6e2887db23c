import Derived.Test.YbulkzkcDoorPlain
/- What LawS1276CBuilt builds, plain, and that it is read back. -/
namespace Go.Proofs.YbulkzkcDoor.Rd

def mark (t : Nat) : Nat := [45, 58, 47, 46, 33, 126, 35, 64, 95].getD t 45
def digs (d : Nat) : List Nat := if 128 ≤ d then [48 + d % 100 / 10, 48 + d % 100 % 10] else [48 + d % 100 % 10]
def want (d : Nat) : Nat := if 128 ≤ d then d % 100 else d % 100 % 10
def fld (P D : Nat → Nat) (j : Nat) : List Nat := mark (P j % 9) :: digs (D j)
def built (P D : Nat → Nat) (n : Nat) : List Nat := (List.range n).flatMap (fld P D)

theorem mark_punct (t : Nat) : punct (mark t) = true := by
  have h : ∀ t, t < 9 → punct (mark t) = true := by decide
  by_cases ht : t < 9
  · exact h t ht
  · have : mark t = 45 := by
      unfold mark
      rw [List.getD_eq_getElem?_getD, List.getElem?_eq_none (by simp; omega)]
      rfl
    rw [this]; decide

theorem punct_not {c : Nat} (h : punct c = true) : isD c = false := by
  cases hD : isD c with
  | false => rfl
  | true => simp [punct, hD] at h

theorem built_zero (P D : Nat → Nat) : built P D 0 = [] := rfl
theorem built_succ (P D : Nat → Nat) (n : Nat) : built P D (n + 1) = built P D n ++ fld P D n := by
  simp [built, List.range_succ]
theorem fld_len (P D : Nat → Nat) (j : Nat) : (fld P D j).length ≤ 3 := by
  unfold fld digs
  split <;> simp
theorem built_len (P D : Nat → Nat) (n : Nat) : (built P D n).length ≤ 3 * n := by
  induction n with
  | zero => simp [built]
  | succ n ih => rw [built_succ, List.length_append]; have := fld_len P D n; omega

theorem isD_dig (x : Nat) (h : x < 10) : isD (48 + x) = true := by
  simp [isD]; omega

/-- One field is read back. -/
theorem rd_fld (k : Nat) (P D : Nat → Nat) (j : Nat) (more : List Nat) (c : Nat) (r : List Nat) (hm : more = c :: r) (hc : punct c = true) :
    rd (k + 1) (fld P D j ++ more) = ((rd k more).1, (rd k more).2.1, want (D j) :: (rd k more).2.2) := by
  have hnc := punct_not hc
  have hmk := mark_punct (P j % 9)
  unfold fld digs want
  by_cases h : 128 ≤ D j
  · rw [if_pos h, if_pos h]
    have hv : D j % 100 < 100 := by omega
    generalize D j % 100 = v at *
    have d1 := isD_dig (v / 10) (by omega)
    have d2 := isD_dig (v % 10) (by omega)
    have hl : lead ([48 + v / 10, 48 + v % 10] ++ more) = 2 := by simp [lead, d1, d2]
    have e : val [48 + v / 10, 48 + v % 10] = v := by simp [val]; omega
    simp only [List.cons_append, List.nil_append] at hl ⊢
    simp only [rd, hmk, if_true, hl]
    rw [if_neg (by omega)]
    simp [e]
  · rw [if_neg h, if_neg h]
    generalize D j % 100 = v at *
    have d2 := isD_dig (v % 10) (by omega)
    have hl : lead ([48 + v % 10] ++ more) = 1 := by subst hm; simp [lead, d2, hnc]
    have e : val [48 + v % 10] = v % 10 := by simp [val]
    simp only [List.cons_append, List.nil_append] at hl ⊢
    simp only [rd, hmk, if_true, hl]
    rw [if_neg (by omega)]
    simp [e]

theorem rd_many (P D : Nat → Nat) (t : List Nat) : ∀ l : List Nat, rd l.length (l.flatMap (fld P D) ++ 35 :: t) = (35 :: t, true, l.map fun j => want (D j)) := by
  intro l
  induction l with
  | nil => simp [rd]
  | cons j l ih =>
    rw [List.flatMap_cons, List.append_assoc, List.length_cons]
    obtain ⟨c, r, hcr, hc⟩ : ∃ c r, l.flatMap (fld P D) ++ 35 :: t = c :: r ∧ punct c = true := by
      cases l with
      | nil => exact ⟨35, t, by simp, by decide⟩
      | cons i l => exact ⟨mark (P i % 9), digs (D i) ++ (l.flatMap (fld P D) ++ 35 :: t), by simp [fld], mark_punct _⟩
    rw [rd_fld l.length P D j _ c r hcr hc, ih]
    simp

theorem rd_built (P D : Nat → Nat) (k : Nat) (t : List Nat) : rd k (built P D k ++ 35 :: t) = (35 :: t, true, (List.range k).map fun j => want (D j)) := by
  have := rd_many P D t (List.range k)
  rwa [List.length_range] at this

end Go.Proofs.YbulkzkcDoor.Rd
