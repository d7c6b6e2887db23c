/- The plain law of the free list: no Go in sight. -/
namespace Go.Proofs.Ybulkzim.Free

/-- The top of the stack, 0 where it is empty. -/
def top (st : List Nat) : Nat := st.getD (st.length - 1) 0

structure PInv (made : Nat) (L al st : List Nat) : Prop where
  len : L.length = if made = 0 then 0 else made + 1
  nodup : (al ++ st).Nodup
  rng : ∀ x, x ∈ al ++ st → 1 ≤ x ∧ x ≤ made
  chain : ∀ i, i < st.length → L.getD (st.getD i 0) 0 = if i = 0 then 0 else st.getD (i - 1) 0

theorem top_nil : top [] = 0 := rfl
theorem top_snoc (st : List Nat) (c : Nat) : top (st ++ [c]) = c := by simp [top]

theorem PInv.start : PInv 0 [] [] [] := ⟨rfl, by simp, by simp, by simp⟩

theorem PInv.len_pos {made : Nat} {L al st : List Nat} (h : PInv made L al st) {x : Nat} (hx : x ∈ al ++ st) : L.length = made + 1 ∧ x < L.length ∧ 0 < x := by
  have h1 := h.rng x hx
  have h2 := h.len
  rw [if_neg (by omega)] at h2
  omega

theorem getD_set_same (L : List Nat) (c v : Nat) (h : c < L.length) : (L.set c v).getD c 0 = v := by simp [List.getD, h]
theorem getD_set_other (L : List Nat) (c v x : Nat) (h : x ≠ c) : (L.set c v).getD x 0 = L.getD x 0 := by
  simp only [List.getD, List.getElem?_set]
  rw [if_neg (by omega)]

theorem getD_mem (l : List Nat) (i : Nat) (h : i < l.length) : l.getD i 0 ∈ l := by
  simp only [List.getD, List.getElem?_eq_getElem h, Option.getD_some]; exact List.getElem_mem h

theorem top_mem (st : List Nat) (h : 0 < st.length) : top st ∈ st := getD_mem st _ (by omega)

theorem getD_append_left (l m : List Nat) (i : Nat) (h : i < l.length) : (l ++ m).getD i 0 = l.getD i 0 := by
  simp [List.getD, List.getElem?_append_left h]
theorem getD_append_at (l : List Nat) (c : Nat) : (l ++ [c]).getD l.length 0 = c := by simp [List.getD]

/-- st = ns ++ [c]: the stack is popped, c is handed out. -/
theorem PInv.reuse {made c : Nat} {L al ns : List Nat} (h : PInv made L al (ns ++ [c])) : PInv made (L.set c 0) (al ++ [c]) ns ∧ L.getD c 0 = top ns ∧ c < L.length ∧ 0 < c ∧ L.length = made + 1 := by
  have hc := h.len_pos (x := c) (by simp)
  have hl := h.chain ns.length (by simp)
  rw [getD_append_at] at hl
  have hnd := h.nodup
  refine ⟨⟨by simpa using h.len, ?_, ?_, ?_⟩, ?_, hc.2.1, hc.2.2, hc.1⟩
  · have : List.Perm (al ++ [c] ++ ns) (al ++ (ns ++ [c])) := by
      rw [List.append_assoc]; exact List.Perm.append_left _ List.perm_append_comm
    exact this.symm.nodup hnd
  · intro x hx; exact h.rng x (by simp at hx ⊢; rcases hx with h | h | h <;> simp [h])
  · intro i hi
    have hne : ns.getD i 0 ≠ c := by
      have hm := getD_mem ns i hi
      intro e
      rw [e] at hm
      rw [List.nodup_append] at hnd
      have := (List.nodup_append.1 hnd.2.1).2.2 c hm c (by simp)
      exact this rfl
    rw [getD_set_other _ _ _ _ hne]
    have := h.chain i (by simp; omega)
    rw [getD_append_left _ _ _ hi] at this
    rw [this]
    by_cases h0 : i = 0
    · simp [h0]
    · rw [if_neg h0, if_neg h0, getD_append_left _ _ _ (by omega)]
  · rw [hl]
    cases ns with
    | nil => simp [top]
    | cons a t =>
      rw [if_neg (by simp), getD_append_left _ _ _ (by simp)]
      rfl

/-- The stack is empty: a new number. -/
theorem PInv.fresh {made : Nat} {L al : List Nat} (h : PInv made L al []) : PInv (made + 1) ((if made = 0 then [0] else L) ++ [0]) (al ++ [made + 1]) [] := by
  refine ⟨?_, ?_, ?_, by simp⟩
  · have := h.len
    by_cases h0 : made = 0
    · simp [h0]
    · simp [h0] at this ⊢; exact this
  · have hnd := h.nodup
    simp only [List.append_nil] at hnd ⊢
    rw [List.nodup_append]
    refine ⟨hnd, by simp, ?_⟩
    intro a ha b hb
    have := h.rng a (by simpa using ha)
    simp at hb
    omega
  · intro x hx
    simp at hx
    rcases hx with hx | hx
    · have := h.rng x (by simpa using hx); omega
    · omega

/-- What is left of al when its i-th is taken out: the last in its place. -/
def takeOut (al : List Nat) (i : Nat) : List Nat := (al.set i (al.getD (al.length - 1) 0)).take (al.length - 1)

theorem takeOut_perm (al : List Nat) (i : Nat) (h : i < al.length) : List.Perm (al.getD i 0 :: takeOut al i) al := by
  obtain ⟨ns, l, rfl⟩ : ∃ ns l, al = ns ++ [l] := ⟨al.dropLast, al.getLast (by intro e; simp [e] at h), (List.dropLast_concat_getLast _).symm⟩
  have hl : (ns ++ [l]).length - 1 = ns.length := by simp
  unfold takeOut
  rw [hl, getD_append_at]
  by_cases hi : i = ns.length
  · subst hi
    rw [getD_append_at]
    have : (ns ++ [l]).set ns.length l = ns ++ [l] := by simp
    rw [this, List.take_left]
    exact (List.perm_append_comm (l₁ := [l]) (l₂ := ns))
  · have hi' : i < ns.length := by simp at h; omega
    rw [getD_append_left _ _ _ hi', List.set_append_left _ _ hi', List.take_left' (by simp)]
    have e1 : ns = ns.take i ++ ns.getD i 0 :: ns.drop (i + 1) := by
      simp [List.getD, hi']
    have e2 : ns.set i l = ns.take i ++ l :: ns.drop (i + 1) := by
      rw [List.set_eq_take_append_cons_drop, if_pos hi']
    rw [e2]
    generalize ns.getD i 0 = x at *
    generalize ns.take i = p at *
    generalize ns.drop (i + 1) = s at *
    rw [e1]
    have a1 : List.Perm (x :: (p ++ l :: s)) (x :: l :: (p ++ s)) := List.Perm.cons x List.perm_middle
    have a2 : List.Perm (p ++ x :: s ++ [l]) (l :: (p ++ x :: s)) := (List.perm_append_comm (l₁ := p ++ x :: s) (l₂ := [l]))
    have a3 : List.Perm (l :: (p ++ x :: s)) (l :: x :: (p ++ s)) := List.Perm.cons l List.perm_middle
    exact a1.trans ((List.Perm.swap l x (p ++ s)).trans (a2.trans a3).symm)

/-- The i-th of al is given back. -/
theorem PInv.free {made i : Nat} {L al st : List Nat} (h : PInv made L al st) (hi : i < al.length) :
    PInv made (L.set (al.getD i 0) (top st)) (takeOut al i) (st ++ [al.getD i 0]) ∧ al.getD i 0 < L.length ∧ L.length = made + 1 := by
  have hm := getD_mem al i hi
  have hp := takeOut_perm al i hi
  generalize al.getD i 0 = c at *
  have hc := h.len_pos (x := c) (by simp [hm])
  have hpp : List.Perm (takeOut al i ++ (st ++ [c])) (al ++ st) := by
    have a1 : List.Perm (takeOut al i ++ (st ++ [c])) ((takeOut al i ++ st) ++ [c]) := by rw [List.append_assoc]
    have a2 : List.Perm ((takeOut al i ++ st) ++ [c]) ([c] ++ (takeOut al i ++ st)) := List.perm_append_comm
    have a3 : List.Perm ([c] ++ (takeOut al i ++ st)) (al ++ st) := List.Perm.append_right st hp
    exact a1.trans (a2.trans a3)
  have hnd : (takeOut al i ++ (st ++ [c])).Nodup := hpp.symm.nodup h.nodup
  refine ⟨⟨by simpa using h.len, hnd, fun x hx => h.rng x (hpp.mem_iff.1 hx), ?_⟩, hc.2.1, hc.1⟩
  intro j hj
  have hcs : c ∉ st := by
    intro hin
    have := (List.nodup_append.1 (List.nodup_append.1 hnd).2.1).2.2 c hin c (by simp)
    exact this rfl
  by_cases e : j = st.length
  · subst e
    rw [getD_append_at, getD_set_same _ _ _ hc.2.1]
    by_cases h0 : st.length = 0
    · rw [if_pos h0]; have : st = [] := List.eq_nil_of_length_eq_zero h0; subst this; rfl
    · rw [if_neg h0, getD_append_left _ _ _ (by omega)]; rfl
  · have hj' : j < st.length := by simp at hj; omega
    rw [getD_append_left _ _ _ hj']
    have hne : st.getD j 0 ≠ c := fun e => hcs (e ▸ getD_mem st j hj')
    rw [getD_set_other _ _ _ _ hne, h.chain j hj']
    by_cases h0 : j = 0
    · rw [if_pos h0, if_pos h0]
    · rw [if_neg h0, if_neg h0, getD_append_left _ _ _ (by omega)]

end Go.Proofs.Ybulkzim.Free
