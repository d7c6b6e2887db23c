import Derived.Test.YbulkzimSim
import Derived.Test.YbulkzimHeapPlain
import Derived.BigQuiet
import Derived.Deep.QuietTactic
namespace Go.Proofs.Ybulkzim.Comp
open Go.RowKit

/-- Event k's five cells lie from i * 5 on. -/
def evIs (f : Nat → Value) (A P : Nat → Int) (i k : Nat) : Prop :=
  f (i * 5) = .int .i64 (A k) ∧ f (i * 5 + 1) = .int .i64 (P k) ∧ f (i * 5 + 2) = .int .u64 (k : Int) ∧ f (i * 5 + 3) = .int .i64 (k : Int) ∧ f (i * 5 + 4) = .nilFunc

/-- The row of events: n places; the first hold the events of V. -/
def Due (w : World) (g n : Nat) (A P : Nat → Int) (V : List Nat) : Prop :=
  V.length ≤ n ∧ ∃ f, w.rowIs g 52 (n * 5) f ∧ ∀ i, i < V.length → evIs f A P i (V.getD i 0)

/-- h[i] = event k. -/
def put5 (w : World) (g i : Nat) (A P : Nat → Int) (k : Nat) : World :=
  ((((w.setCell ⟨g, i * 5, none⟩ (.int .i64 (A k))).setCell ⟨g, i * 5 + 1, none⟩ (.int .i64 (P k))).setCell ⟨g, i * 5 + 2, none⟩ (.int .u64 (k : Int))).setCell ⟨g, i * 5 + 3, none⟩ (.int .i64 (k : Int))).setCell ⟨g, i * 5 + 4, none⟩ .nilFunc

section
variable {w w' : World} {g n : Nat} {A P : Nat → Int} {V : List Nat}

theorem Due.lt (h : Due w g n A P V) : g < w.heap.size := by obtain ⟨_, f, r, _⟩ := h; exact r.lt
theorem Due.of_block (h : Due w g n A P V) (e : w'.heap[g]? = w.heap[g]?) : Due w' g n A P V := by
  obtain ⟨h1, f, r, h2⟩ := h; exact ⟨h1, f, r.of_block e, h2⟩
theorem Due.kept {own : Nat → Prop} (h : Due w g n A P V) (k : Kept own w w') (hg : ¬ own g) : Due w' g n A P V := h.of_block (k.block g h.lt hg)
theorem Due.drewN (h : Due w g n A P V) (m : Nat) : Due (w.drewN m) g n A P V := h
theorem Due.alloc (h : Due w g n A P V) (o : Obj) : Due (w.alloc o) g n A P V := h.of_block (Below.heap_alloc _ _ _ h.lt)
theorem Due.take (h : Due w g n A P V) (m : Nat) : Due w g n A P (V.take m) := by
  obtain ⟨h1, f, r, h2⟩ := h
  refine ⟨by simp; omega, f, r, fun i hi => ?_⟩
  have hi' : i < m ∧ i < V.length := by simp at hi; omega
  have : (V.take m).getD i 0 = V.getD i 0 := by simp [List.getD, hi'.1]
  rw [this]; exact h2 i hi'.2

/-- The cells of place i. -/
theorem Due.cells (h : Due w g n A P V) {i : Nat} (hi : i < V.length) :
    w.cell? ⟨g, i * 5, none⟩ = some (.int .i64 (A (V.getD i 0))) ∧ w.cell? ⟨g, i * 5 + 1, none⟩ = some (.int .i64 (P (V.getD i 0))) ∧ w.cell? ⟨g, i * 5 + 2, none⟩ = some (.int .u64 ((V.getD i 0 : Nat) : Int)) ∧
      w.cell? ⟨g, i * 5 + 3, none⟩ = some (.int .i64 ((V.getD i 0 : Nat) : Int)) ∧ w.cell? ⟨g, i * 5 + 4, none⟩ = some .nilFunc := by
  obtain ⟨h1, f, r, h2⟩ := h
  obtain ⟨e0, e1, e2, e3, e4⟩ := h2 i hi
  exact ⟨by rw [r.cell (by omega), e0], by rw [r.cell (by omega), e1], by rw [r.cell (by omega), e2], by rw [r.cell (by omega), e3], by rw [r.cell (by omega), e4]⟩
theorem Due.frozen (h : Due w g n A P V) (o : Nat) : w.frozen? ⟨g, o, none⟩ = false := by obtain ⟨_, f, r, _⟩ := h; exact r.frozen o
theorem Due.some (h : Due w g n A P V) {i : Nat} (hi : i < n) (j : Nat) (hj : j < 5) : ∃ v, w.cell? ⟨g, i * 5 + j, none⟩ = some v := by
  obtain ⟨_, f, r, _⟩ := h; exact ⟨_, r.cell (by omega)⟩

theorem evIs_other {f : Nat → Value} {i j k o : Nat} {v : Value} (h : evIs f A P j k) (ho : o < 5) (hij : j ≠ i) : evIs (fun x => if x = i * 5 + o then v else f x) A P j k := by
  obtain ⟨h0, h1, h2, h3, h4⟩ := h
  refine ⟨?_, ?_, ?_, ?_, ?_⟩ <;> (show (if _ then _ else _) = _) <;> rw [if_neg (by omega)] <;> assumption

theorem Due.put (h : Due w g n A P V) {i : Nat} (hi : i < n) (k : Nat) (U : List Nat) (hU : U.length ≤ n) (hsame : ∀ j, j < U.length → j ≠ i → j < V.length ∧ U.getD j 0 = V.getD j 0) (hk : U.getD i 0 = k) : Due (put5 w g i A P k) g n A P U := by
  obtain ⟨h1, f, r, h2⟩ := h
  have r5 := ((((r.set (i * 5) (.int .i64 (A k))).set (i * 5 + 1) (.int .i64 (P k))).set (i * 5 + 2) (.int .u64 (k : Int))).set (i * 5 + 3) (.int .i64 (k : Int))).set (i * 5 + 4) .nilFunc
  refine ⟨hU, _, r5, fun j hj => ?_⟩
  by_cases e : j = i
  · subst e
    rw [hk]
    refine ⟨?_, ?_, ?_, ?_, ?_⟩ <;> simp
  · obtain ⟨a1, a2⟩ := hsame j hj e
    rw [a2]
    have b0 := evIs_other (o := 0) (v := .int .i64 (A k)) (h2 j a1) (by omega) e
    simp only [Nat.add_zero] at b0
    exact evIs_other (evIs_other (evIs_other (evIs_other b0 (by omega) e) (by omega) e) (by omega) e) (by omega) e

theorem put5_kept {own : Nat → Prop} (i k : Nat) (hg : own g) : Kept own w (put5 w g i A P k) :=
  (((((Kept.refl own w).setCell hg _).setCell hg _).setCell hg _).setCell hg _).setCell hg _
end

theorem drewN_add (w : World) (a b : Nat) : (w.drewN a).drewN b = w.drewN (a + b) := by simp [World.drewN, Nat.add_assoc]

set_option maxHeartbeats 400000 in
/-- e.before(f) -/
theorem before_any (w : World) (A P : Nat → Int) (b1 o1 b2 o2 x y : Nat)
    (x0 : w.cell? ⟨b1, o1, none⟩ = some (.int .i64 (A x))) (x1 : w.cell? ⟨b1, o1 + 1, none⟩ = some (.int .i64 (P x))) (x2 : w.cell? ⟨b1, o1 + 2, none⟩ = some (.int .u64 (x : Int)))
    (y0 : w.cell? ⟨b2, o2, none⟩ = some (.int .i64 (A y))) (y1 : w.cell? ⟨b2, o2 + 1, none⟩ = some (.int .i64 (P y))) (y2 : w.cell? ⟨b2, o2 + 2, none⟩ = some (.int .u64 (y : Int))) :
    Calls Yba.prog 7 #[.pointer (some ⟨b1, o1, none⟩), .pointer (some ⟨b2, o2, none⟩)] w fun e w' => e = .returned (.bool (bef A P x y)) ∧ ∃ n, w' = w.drewN n := by
  unfold bef
  generalize A x = ax at *
  generalize A y = ay at *
  generalize P x = px at *
  generalize P y = py at *
  by_cases h1 : ax = ay
  · subst h1
    rw [if_pos rfl]
    by_cases h2 : px = py
    · subst h2
      rw [if_pos rfl]
      go_enter Yba.func7, Yba.ntmps7
      go_wp2
      go_quiet (fail)
      go_wp2
      go_quiet (fail)
      go_wp2
      go_quiet (fail)
      go_wp2
      go_ret
      exact ⟨rfl, _, by rw [drewN_add, drewN_add]⟩
    · rw [if_neg h2]
      have e2 : (px != py) = true := by simpa using h2
      go_enter Yba.func7, Yba.ntmps7
      go_wp2
      go_quiet (fail)
      go_wp2
      go_quiet (fail)
      go_wp2
      go_quiet (fail)
      go_wp2
      go_ret
      exact ⟨rfl, _, by rw [drewN_add, drewN_add]⟩
  · rw [if_neg h1]
    have e1 : (ax != ay) = true := by simpa using h1
    go_enter Yba.func7, Yba.ntmps7
    go_wp2
    go_quiet (fail)
    go_wp2
    go_quiet (fail)
    go_wp2
    go_ret
    exact ⟨rfl, _, by rw [drewN_add]⟩
end Go.Proofs.Ybulkzim.Comp
