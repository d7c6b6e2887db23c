import Derived.Test.YbulkzimLawParts
namespace Go.Proofs.Ybulkzim.Comp
open Go.RowKit

/-- What is stored into the simulation ahead of the first loop. -/
def sOne (gi gh gk n W : Nat) : SimC := ⟨.slice none 0 0, .slice (some ⟨gi, 0, none⟩) n n, .slice (some ⟨gh, 0, none⟩) W W, .slice (some ⟨gk, 0, none⟩) W W, 0, 0, 0⟩

/-- What holds inside the first loop: d events are queued, h are held, k are looked at for their mark. -/
structure L1 (w : World) (b gi gh gk g n W : Nat) (A P : Nat → Int) (K : Nat → Bool) (d h k : Nat) (wr : World) : Prop where
  due : Due wr g n A P (List.range d)
  rs : wr.rowIs b 43 211 (simF (sOne gi gh gk n W))
  ri : ∃ f, wr.rowIs gi 25 n f
  rh : wr.rowIs gh 25 W (wf (fun j => decide (j < h)))
  rk : wr.rowIs gk 25 W (wf (fun j => decide (j < k) && K j))
  bel : Below w.heap.size w wr
  lo : w.heap.size ≤ b ∧ b < gi ∧ gi < gh ∧ gh < gk ∧ gk < g

theorem zs4 : zscells[4]? = some (.slice none 0 0) := by kernel_rfl
theorem zs198 : zscells[198]? = some (.int .i64 0) := by kernel_rfl
theorem zs202 : zscells[202]? = some (.int .i64 0) := by kernel_rfl
theorem zs204 : zscells[204]? = some (.int .i64 0) := by kernel_rfl
theorem zs199 : zscells[199]? = some (.slice none 0 0) := by kernel_rfl
theorem zs200 : zscells[200]? = some (.slice none 0 0) := by kernel_rfl
theorem zs201 : zscells[201]? = some (.slice none 0 0) := by kernel_rfl

theorem simF_zero (i : Nat) (h : i < 211) : zscells[i]? = some (simF simZ i) := by
  have hl : zscells.length = 211 := by decide +kernel
  unfold simF simZ
  by_cases h1 : i = 4
  · subst h1; exact zs4
  by_cases h2 : i = 198
  · subst h2; exact zs198
  by_cases h3 : i = 199
  · subst h3; exact zs199
  by_cases h4 : i = 200
  · subst h4; exact zs200
  by_cases h5 : i = 201
  · subst h5; exact zs201
  by_cases h6 : i = 202
  · subst h6; exact zs202
  by_cases h7 : i = 204
  · subst h7; exact zs204
  rw [if_neg h1, if_neg h2, if_neg h3, if_neg h4, if_neg h5, if_neg h6, if_neg h7]
  simp [List.getD, hl, h]

theorem simF_one (gi gh gk n W i : Nat) (h : i < 211) :
    (((zscells.set 199 (.slice (some ⟨gi, 0, none⟩) n n)).set 200 (.slice (some ⟨gh, 0, none⟩) W W)).set 201 (.slice (some ⟨gk, 0, none⟩) W W)).toArray[i]? = some (simF (sOne gi gh gk n W) i) := by
  have h0 := simF_zero i h
  have hl : zscells.length = 211 := by decide +kernel
  simp only [List.getElem?_toArray]
  simp only [List.getElem?_set, List.length_set, hl]
  by_cases e1 : i = 201
  · subst e1; simp [simF, sOne]
  · by_cases e2 : i = 200
    · subst e2; simp [simF, sOne]
    · by_cases e3 : i = 199
      · subst e3; simp [simF, sOne]
      · rw [if_neg (by omega), if_neg (by omega), if_neg (by omega), h0]
        simp [simF, sOne, simZ, e1, e2, e3]

theorem words_zero (p : Nat → Bool) (h : ∀ k, p k = false) : (fun _ : Nat => Value.int .u64 0) = wf p := by
  have : p = fun _ => false := funext h
  subst this
  funext j
  simp [wf, word_zero]

theorem l1_start (w : World) (n W : Nat) (A P : Nat → Int) (K : Nat → Bool) :
    L1 w w.heap.size (w.heap.size + 1) (w.heap.size + 1 + 1) (w.heap.size + 1 + 1 + 1) (w.heap.size + 1 + 1 + 1 + 1) n W A P K 0 0 0
      (((((w.alloc (.cells (((zscells.set 199 (.slice (some ⟨w.heap.size + 1, 0, none⟩) n n)).set 200 (.slice (some ⟨w.heap.size + 1 + 1, 0, none⟩) W W)).set 201 (.slice (some ⟨w.heap.size + 1 + 1 + 1, 0, none⟩) W W)).toArray 43)).alloc
        (.cells (madeCells #[.int .u64 0] n) 25)).alloc (.cells (madeCells #[.int .u64 0] W) 25)).alloc (.cells (madeCells #[.int .u64 0] W) 25)).alloc (.cells (madeCells zq5 (n * 5)) 52)) := by
  have hl : zscells.length = 211 := by decide +kernel
  generalize hS : (((zscells.set 199 (.slice (some ⟨w.heap.size + 1, 0, none⟩) n n)).set 200 (.slice (some ⟨w.heap.size + 1 + 1, 0, none⟩) W W)).set 201 (.slice (some ⟨w.heap.size + 1 + 1 + 1, 0, none⟩) W W)).toArray = S
  have hSs : S.size = 211 := by rw [← hS]; simp [hl]
  have r1 := World.rowIs_alloc w S 43 (simF (sOne (w.heap.size + 1) (w.heap.size + 1 + 1) (w.heap.size + 1 + 1 + 1) n W)) (fun i hi => by rw [hSs] at hi; rw [← hS]; exact simF_one _ _ _ n W i hi)
  rw [hSs] at r1
  have r2 := World.rowIs_made (w.alloc (.cells S 43)) (.int .u64 0) n 25
  have r3 := World.rowIs_made ((w.alloc (.cells S 43)).alloc (.cells (madeCells #[.int .u64 0] n) 25)) (.int .u64 0) W 25
  have r4 := World.rowIs_made (((w.alloc (.cells S 43)).alloc (.cells (madeCells #[.int .u64 0] n) 25)).alloc (.cells (madeCells #[.int .u64 0] W) 25)) (.int .u64 0) W 25
  have r5 := due_made ((((w.alloc (.cells S 43)).alloc (.cells (madeCells #[.int .u64 0] n) 25)).alloc (.cells (madeCells #[.int .u64 0] W) 25)).alloc (.cells (madeCells #[.int .u64 0] W) 25)) n A P
  have e1 : (w.alloc (.cells S 43)).heap.size = w.heap.size + 1 := by simp
  have e2 : ((w.alloc (.cells S 43)).alloc (.cells (madeCells #[.int .u64 0] n) 25)).heap.size = w.heap.size + 1 + 1 := by simp
  have e3 : (((w.alloc (.cells S 43)).alloc (.cells (madeCells #[.int .u64 0] n) 25)).alloc (.cells (madeCells #[.int .u64 0] W) 25)).heap.size = w.heap.size + 1 + 1 + 1 := by simp
  have e4 : ((((w.alloc (.cells S 43)).alloc (.cells (madeCells #[.int .u64 0] n) 25)).alloc (.cells (madeCells #[.int .u64 0] W) 25)).alloc (.cells (madeCells #[.int .u64 0] W) 25)).heap.size = w.heap.size + 1 + 1 + 1 + 1 := by simp
  rw [e1] at r2
  rw [e2] at r3
  rw [e3] at r4
  rw [e4] at r5
  rw [words_zero (fun k => decide (k < 0)) (by simp)] at r3
  rw [words_zero (fun k => decide (k < 0) && K k) (by simp)] at r4
  refine ⟨r5, ((((r1.alloc _).alloc _).alloc _).alloc _), ⟨_, ((r2.alloc _).alloc _).alloc _⟩, (r3.alloc _).alloc _, r4.alloc _, ?_, by omega⟩
  exact ((((((Below.refl _ w).alloc (Nat.le_refl _) _).alloc (by simp) _).alloc (by simp; omega) _).alloc (by simp; omega) _).alloc (by simp; omega) _)

theorem put_lt (i : Nat) : put (fun j => decide (j < i)) i = fun j => decide (j < i + 1) := by
  funext j; unfold put; rw [Bool.eq_iff_iff]; simp; omega
theorem put_and {K : Nat → Bool} {i : Nat} (h : K i = true) : put (fun j => decide (j < i) && K j) i = fun j => decide (j < i + 1) && K j := by
  funext j
  unfold put
  by_cases e : j = i
  · subst e; simp [h]
  · have : decide (j < i + 1) = decide (j < i) := by simp; omega
    simp [this, e]
theorem same_and {K : Nat → Bool} {i : Nat} (h : K i = false) : (fun j => decide (j < i) && K j) = fun j => decide (j < i + 1) && K j := by
  funext j
  by_cases e : j = i
  · subst e; simp [h]
  · have : decide (j < i + 1) = decide (j < i) := by simp; omega
    simp [this]

section
variable {w wr w' : World} {b gi gh gk g n W d h k i : Nat} {A P : Nat → Int} {K : Nat → Bool}

theorem L1.drew (l : L1 w b gi gh gk g n W A P K d h k wr) : L1 w b gi gh gk g n W A P K d h k wr.drew := ⟨l.due, l.rs, l.ri, l.rh, l.rk, l.bel.drew, l.lo⟩
theorem L1.alloc (l : L1 w b gi gh gk g n W A P K d h k wr) (o : Obj) : L1 w b gi gh gk g n W A P K d h k (wr.alloc o) := by
  obtain ⟨f, ri⟩ := l.ri
  exact ⟨l.due.alloc o, l.rs.alloc o, ⟨f, ri.alloc o⟩, l.rh.alloc o, l.rk.alloc o, l.bel.alloc l.bel.size o, l.lo⟩

theorem kept_below {own : Nat → Prop} {B : Nat} (hk : Kept own wr w') (hb : Below B w wr) (hB : B ≤ wr.heap.size) (ho : ∀ j, own j → B ≤ j) : Below B w w' := hb.trans (hk.below hB ho)

theorem L1.append (l : L1 w b gi gh gk g n W A P K d h k wr) (hd : Due w' g n A P (List.range d ++ [d])) (hk : Kept (fun j => j = g) wr w') : L1 w b gi gh gk g n W A P K (d + 1) h k w' := by
  obtain ⟨f, ri⟩ := l.ri
  have lo := l.lo
  exact ⟨by rw [List.range_succ]; exact hd, hk.row l.rs (by omega), ⟨f, hk.row ri (by omega)⟩, hk.row l.rh (by omega), hk.row l.rk (by omega), kept_below hk l.bel l.bel.size (fun j e => by omega), lo⟩

theorem L1.ids (l : L1 w b gi gh gk g n W A P K d h k wr) (j : Nat) (v : Value) : L1 w b gi gh gk g n W A P K d h k (wr.setCell ⟨gi, j, none⟩ v) := by
  obtain ⟨f, ri⟩ := l.ri
  have lo := l.lo
  have hk : Kept (fun j => j = gi) wr (wr.setCell ⟨gi, j, none⟩ v) := (Kept.refl (fun j => j = gi) wr).setCell (p := ⟨gi, j, none⟩) rfl v
  exact ⟨l.due.kept hk (by omega), hk.row l.rs (by omega), ⟨_, ri.set j v⟩, hk.row l.rh (by omega), hk.row l.rk (by omega), kept_below hk l.bel l.bel.size (fun j e => by omega), lo⟩

theorem L1.held (l : L1 w b gi gh gk g n W A P K d i k wr) : L1 w b gi gh gk g n W A P K d (i + 1) k (wr.setCell ⟨gh, i / 64, none⟩ (.int .u64 ((word (put (fun j => decide (j < i)) i) (i / 64) : Nat) : Int))) := by
  obtain ⟨f, ri⟩ := l.ri
  have lo := l.lo
  have hk : Kept (fun j => j = gh) wr (wr.setCell ⟨gh, i / 64, none⟩ (.int .u64 ((word (put (fun j => decide (j < i)) i) (i / 64) : Nat) : Int))) := (Kept.refl (fun j => j = gh) wr).setCell (p := ⟨gh, i / 64, none⟩) rfl _
  have r := l.rh.set (i / 64) (.int .u64 ((word (put (fun j => decide (j < i)) i) (i / 64) : Nat) : Int))
  rw [wf_put] at r
  exact ⟨l.due.kept hk (by omega), hk.row l.rs (by omega), ⟨_, hk.row ri (by omega)⟩, by rw [← put_lt]; exact r, hk.row l.rk (by omega), kept_below hk l.bel l.bel.size (fun j e => by omega), lo⟩

theorem L1.killed (l : L1 w b gi gh gk g n W A P K d h i wr) (hK : K i = true) : L1 w b gi gh gk g n W A P K d h (i + 1) (wr.setCell ⟨gk, i / 64, none⟩ (.int .u64 ((word (put (fun j => decide (j < i) && K j) i) (i / 64) : Nat) : Int))) := by
  obtain ⟨f, ri⟩ := l.ri
  have lo := l.lo
  have hk : Kept (fun j => j = gk) wr (wr.setCell ⟨gk, i / 64, none⟩ (.int .u64 ((word (put (fun j => decide (j < i) && K j) i) (i / 64) : Nat) : Int))) := (Kept.refl (fun j => j = gk) wr).setCell (p := ⟨gk, i / 64, none⟩) rfl _
  have r := l.rk.set (i / 64) (.int .u64 ((word (put (fun j => decide (j < i) && K j) i) (i / 64) : Nat) : Int))
  rw [wf_put] at r
  exact ⟨l.due.kept hk (by omega), hk.row l.rs (by omega), ⟨_, hk.row ri (by omega)⟩, hk.row l.rh (by omega), by rw [← put_and hK]; exact r, kept_below hk l.bel l.bel.size (fun j e => by omega), lo⟩

theorem L1.spared (l : L1 w b gi gh gk g n W A P K d h i wr) (hK : K i = false) : L1 w b gi gh gk g n W A P K d h (i + 1) wr :=
  ⟨l.due, l.rs, l.ri, l.rh, by rw [← same_and hK]; exact l.rk, l.bel, l.lo⟩
end
end Go.Proofs.Ybulkzim.Comp
