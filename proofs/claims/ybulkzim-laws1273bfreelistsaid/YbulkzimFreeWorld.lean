import Derived.Test.YbulkzimQueue
import Derived.Test.YbulkzimFreePlain
namespace Go.Proofs.Ybulkzim.Free
open Go.RowKit

/-- A row of numbers. -/
def ns (l : List Nat) : List Value := l.map fun n : Nat => Value.int .i64 (n : Int)
def zs (l : List Nat) : List Int := l.map fun n : Nat => (n : Int)

theorem ns_len (l : List Nat) : (ns l).length = l.length := by simp [ns]
theorem zs_len (l : List Nat) : (zs l).length = l.length := by simp [zs]
theorem ns_snoc (l : List Nat) (c : Nat) : ns (l ++ [c]) = ns l ++ [.int .i64 (c : Int)] := by simp [ns]
theorem zs_set (l : List Nat) (i v : Nat) : zs (l.set i v) = (zs l).set i (v : Int) := by simp [zs, List.map_set]
theorem zs_get (l : List Nat) (i : Nat) : (zs l).getD i 0 = ((l.getD i 0 : Nat) : Int) := by
  simp only [zs, List.getD, List.getElem?_map]
  cases l[i]? <;> rfl

/-- What holds of memory at the head of a round: the queue, and the law's own two slices. -/
structure FInv (w : World) (b : Nat) (cv lv av sv : Value) (N : Nat) (L : List Nat) (f : Int) (al st : List Nat) : Prop where
  q : QAt w b cv lv N (zs L) f
  oa : w.ownsRow (b + 1) 3 1 av al.length (ns al)
  os : w.ownsRow (b + 1) 3 1 sv st.length (ns st)
  las : ∀ k, av.ownBlock = some k → sv.ownBlock ≠ some k
  lal : ∀ k, av.ownBlock = some k → lv.ownBlock ≠ some k
  lsl : ∀ k, sv.ownBlock = some k → lv.ownBlock ≠ some k

section
variable {w w' w2 : World} {b N : Nat} {cv lv av sv cv' lv' : Value} {L al st : List Nat} {f : Int}

theorem FInv.cva (h : FInv w b cv lv av sv N L f al st) : ∀ k, av.ownBlock = some k → cv.ownBlock ≠ some k := by
  intro k ha hc
  obtain ⟨xs, oc⟩ := h.q.oc
  obtain ⟨c1, h1⟩ := ownsRow.blk oc hc
  obtain ⟨c2, h2⟩ := ownsRow.blk h.oa ha
  rw [h1] at h2; cases h2
theorem FInv.cvs (h : FInv w b cv lv av sv N L f al st) : ∀ k, sv.ownBlock = some k → cv.ownBlock ≠ some k := by
  intro k ha hc
  obtain ⟨xs, oc⟩ := h.q.oc
  obtain ⟨c1, h1⟩ := ownsRow.blk oc hc
  obtain ⟨c2, h2⟩ := ownsRow.blk h.os ha
  rw [h1] at h2; cases h2

theorem FInv.start (q : QAt w b cv lv 0 [] 0) : FInv w b cv lv (.slice none 0 0) (.slice none 0 0) 0 [] 0 [] [] :=
  ⟨q, World.ownsRow_nil _ _ _ _, World.ownsRow_nil _ _ _ _, (fun _ h => nomatch h), (fun _ h => nomatch h), (fun _ h => nomatch h)⟩

/-- Behind a step on the queue. -/
theorem FInv.step (h : FInv w b cv lv av sv N L f al st) {N' : Nat} {L' : List Nat} {f' : Int} (s : QStep w w' b cv lv cv' lv') (q' : QAt w' b cv' lv' N' (zs L') f') :
    FInv w' b cv' lv' av sv N' L' f' al st := by
  have ha : ∀ k, av.ownBlock = some k → k < w.heap.size ∧ b + 1 ≤ k := fun k hk => ⟨(h.oa.lt k hk).2, (h.oa.lt k hk).1⟩
  have hs : ∀ k, sv.ownBlock = some k → k < w.heap.size ∧ b + 1 ≤ k := fun k hk => ⟨(h.os.lt k hk).2, (h.os.lt k hk).1⟩
  refine ⟨q', s.row h.oa (fun e => by have := (ha b e).2; omega) h.cva h.lal, s.row h.os (fun e => by have := (hs b e).2; omega) h.cvs h.lsl, h.las, ?_, ?_⟩
  · intro k hk hl
    rcases s.lown k hl with e | e
    · exact h.lal k hk e
    · have := (ha k hk).1; omega
  · intro k hk hl
    rcases s.lown k hl with e | e
    · exact h.lsl k hk e
    · have := (hs k hk).1; omega

theorem QAt.grown {ls : List Int} {o : Obj} {row : Option Nat} (q : QAt w b cv lv N ls f) (gr : (w.alloc o).grownBy w2 row) (hb : row ≠ some b) (hc : ∀ k, row = some k → cv.ownBlock ≠ some k) (hl : ∀ k, row = some k → lv.ownBlock ≠ some k) :
    QAt w2 b cv lv N ls f := by
  obtain ⟨xs, oc⟩ := q.oc
  refine ⟨(q.qb.alloc o).kept gr (fun e => hb e.symm), ⟨xs, (oc.alloc o).kept gr ?_⟩, (q.ol.alloc o).kept gr ?_⟩
  · cases h : cv.ownBlock with
    | none => exact .inl rfl
    | some k => exact .inr fun e => hc k e.symm h
  · cases h : lv.ownBlock with
    | none => exact .inl rfl
    | some k => exact .inr fun e => hl k e.symm h

theorem own_slice (g n c : Nat) : (Value.slice (some ⟨g, 0, none⟩) n c).ownBlock = some g := rfl

/-- alloc = append(alloc, c) -/
theorem FInv.pushA (h : FInv w b cv lv av sv N L f al st) {o : Obj} {g cap c : Nat} (gr : (w.alloc o).grownBy w2 av.ownBlock)
    (oa : w2.ownsRow (b + 1) 3 1 (.slice (some ⟨g, 0, none⟩) (al.length + 1) cap) (al.length + 1) (ns al ++ [.int .i64 (c : Int)])) (hat : av.ownBlock = some g ∨ g = w.heap.size + 1) :
    FInv w2 b cv lv (.slice (some ⟨g, 0, none⟩) (al.length + 1) cap) sv N L f (al ++ [c]) st ∧ Below (b + 1) w w2 := by
  have hb := h.q.qb.lt
  have ha : ∀ k, av.ownBlock = some k → b + 1 ≤ k := fun k hk => (h.oa.lt k hk).1
  refine ⟨⟨QAt.grown h.q gr (fun e => by have := ha b e; omega) h.cva h.lal, by simpa [ns_snoc] using oa, (h.os.alloc o).kept gr ?_, ?_, ?_, h.lsl⟩,
    ((Below.refl (b + 1) w).alloc (by omega) o).grown gr (by simp; omega) ha⟩
  · cases e : sv.ownBlock with
    | none => exact .inl rfl
    | some k => exact .inr fun e' => h.las k e'.symm e
  · intro k hk hs
    rw [own_slice] at hk
    cases hk
    rcases hat with e | e
    · exact h.las g e hs
    · have := (h.os.lt g hs).2; omega
  · intro k hk hs
    rw [own_slice] at hk
    cases hk
    rcases hat with e | e
    · exact h.lal g e hs
    · have := (h.q.lge hs).2; omega

/-- stack = append(stack, c) -/
theorem FInv.pushS (h : FInv w b cv lv av sv N L f al st) {o : Obj} {g cap c : Nat} (gr : (w.alloc o).grownBy w2 sv.ownBlock)
    (os : w2.ownsRow (b + 1) 3 1 (.slice (some ⟨g, 0, none⟩) (st.length + 1) cap) (st.length + 1) (ns st ++ [.int .i64 (c : Int)])) (hat : sv.ownBlock = some g ∨ g = w.heap.size + 1) :
    FInv w2 b cv lv av (.slice (some ⟨g, 0, none⟩) (st.length + 1) cap) N L f al (st ++ [c]) ∧ Below (b + 1) w w2 := by
  have hb := h.q.qb.lt
  have ha : ∀ k, sv.ownBlock = some k → b + 1 ≤ k := fun k hk => (h.os.lt k hk).1
  refine ⟨⟨QAt.grown h.q gr (fun e => by have := ha b e; omega) h.cvs h.lsl, (h.oa.alloc o).kept gr ?_, by simpa [ns_snoc] using os, ?_, h.lal, ?_⟩,
    ((Below.refl (b + 1) w).alloc (by omega) o).grown gr (by simp; omega) ha⟩
  · cases e : av.ownBlock with
    | none => exact .inl rfl
    | some k => exact .inr fun e' => h.las k e e'.symm
  · intro k hk hs
    rw [own_slice] at hs
    cases hs
    rcases hat with e | e
    · exact h.las g hk e
    · have := (h.oa.lt g hk).2; omega
  · intro k hk hs
    rw [own_slice] at hk
    cases hk
    rcases hat with e | e
    · exact h.lsl g e hs
    · have := (h.q.lge hs).2; omega

/-- stack = stack[:len(stack)-1] -/
theorem FInv.popS {g n cap c : Nat} (h : FInv w b cv lv av (.slice (some ⟨g, 0, none⟩) (n + 1) cap) N L f al (st ++ [c])) (hn : st.length = n) :
    FInv w b cv lv av (.slice (some ⟨g, 0, none⟩) n cap) N L f al st := by
  have os := h.os
  simp only [List.length_append, List.length_cons, List.length_nil, ns_snoc] at os
  subst hn
  exact ⟨h.q, h.oa, ownsRow_pop (by simp [ns_len]) (by simpa using os), h.las, h.lal, h.lsl⟩

theorem ns_get (l : List Nat) (i : Nat) (h : i < l.length) : (ns l)[i]? = some (.int .i64 (l.getD i 0 : Nat)) := by
  simp [ns, List.getD, h]

theorem ns_set (l : List Nat) (i v : Nat) : ns (l.set i v) = (ns l).set i (.int .i64 (v : Int)) := by simp [ns, List.map_set]

/-- The cells of alloc and of stack. -/
theorem FInv.cellA {g n cap : Nat} (h : FInv w b cv lv (.slice (some ⟨g, 0, none⟩) n cap) sv N L f al st) (i : Nat) (hi : i < al.length) :
    w.cell? ⟨g, i, none⟩ = some (.int .i64 (al.getD i 0 : Nat)) ∧ w.frozen? ⟨g, i, none⟩ = false ∧ b < g := by
  have oa := h.oa
  obtain ⟨_, _, e⟩ := ownsRow.sl oa
  cases e
  exact ⟨by rw [oa.cellAt i (by omega), ns_get _ _ hi], oa.frozenAt i, by have := (oa.lt g rfl).1; omega⟩
theorem FInv.cellS {g n cap : Nat} (h : FInv w b cv lv av (.slice (some ⟨g, 0, none⟩) n cap) N L f al st) (i : Nat) (hi : i < st.length) :
    w.cell? ⟨g, i, none⟩ = some (.int .i64 (st.getD i 0 : Nat)) ∧ w.frozen? ⟨g, i, none⟩ = false ∧ b < g := by
  have oa := h.os
  obtain ⟨_, _, e⟩ := ownsRow.sl oa
  cases e
  exact ⟨by rw [oa.cellAt i (by omega), ns_get _ _ hi], oa.frozenAt i, by have := (oa.lt g rfl).1; omega⟩

/-- alloc[i] = alloc[len(alloc)-1]; alloc = alloc[:len(alloc)-1] -/
theorem FInv.takeA {g n cap : Nat} (h : FInv w b cv lv (.slice (some ⟨g, 0, none⟩) (n + 1) cap) sv N L f al st) (i : Nat) (hn : al.length = n + 1) :
    FInv (w.setCell ⟨g, i, none⟩ (.int .i64 (al.getD n 0 : Nat))) b cv lv (.slice (some ⟨g, 0, none⟩) n cap) sv N L f (takeOut al i) st ∧
      Below (b + 1) w (w.setCell ⟨g, i, none⟩ (.int .i64 (al.getD n 0 : Nat))) := by
  have oa := h.oa
  have hg : b + 1 ≤ g := (oa.lt g rfl).1
  rw [hn] at oa
  have st1 := (oa.stored i (.int .i64 (al.getD n 0 : Nat))).1
  rw [← ns_set] at st1
  have e : al.set i (al.getD n 0) = takeOut al i ++ [(al.set i (al.getD n 0)).getD n 0] := by
    unfold takeOut
    have h1 : al.length - 1 = n := by omega
    rw [h1]
    have : (al.set i (al.getD n 0)).length = n + 1 := by simp [hn]
    generalize al.set i (al.getD n 0) = m at *
    apply List.ext_getElem?
    intro j
    by_cases hj : j < n
    · rw [List.getElem?_append_left (by simp; omega), List.getElem?_take, if_pos hj]
    · by_cases hjn : j = n
      · subst hjn
        rw [List.getElem?_append_right (by simp; omega)]
        simp [this, List.getD]
      · rw [List.getElem?_eq_none (by omega), List.getElem?_eq_none (by simp; omega)]
  rw [e, ns_snoc] at st1
  have hl : (takeOut al i).length = n := by simp [takeOut, hn]
  have oa2 := ownsRow_pop (by simp [ns_len, hl]) st1
  have hne : ∀ v : Value, (∀ k, some g = some k → v.ownBlock ≠ some k) → v.ownBlock ≠ some (⟨g, i, none⟩ : Addr).block := fun v hv => hv g rfl
  obtain ⟨xs, oc⟩ := h.q.oc
  refine ⟨⟨⟨h.q.qb.setOther _ _ (by show b ≠ g; omega), ⟨xs, ownsRow_setCell_other oc (hne _ (fun k hk => h.cva k (by rw [own_slice]; exact hk))) _⟩, ownsRow_setCell_other h.q.ol (hne _ (fun k hk => h.lal k (by rw [own_slice]; exact hk))) _⟩, by rw [hl]; exact oa2,
    ownsRow_setCell_other h.os (hne _ (fun k hk => h.las k (by rw [own_slice]; exact hk))) _, h.las, h.lal, h.lsl⟩, (Below.refl _ _).setCell hg _⟩
end
end Go.Proofs.Ybulkzim.Free
