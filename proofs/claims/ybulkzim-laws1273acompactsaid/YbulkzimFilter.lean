import Derived.Test.YbulkzimClear
import Derived.Test.YbulkzimSlots
namespace Go.Proofs.Ybulkzim.Comp
open Go.RowKit

/-- The events kept of the first i. -/
def kept (K : Nat → Bool) (i : Nat) : List Nat := (List.range i).filter fun k => !K k
/-- The bits behind i rounds. -/
def off (p K : Nat → Bool) (i : Nat) : Nat → Bool := fun k => p k && !(decide (k < i) && K k)

theorem kept_yes {K : Nat → Bool} {i : Nat} (h : K i = false) : kept K (i + 1) = kept K i ++ [i] := by simp [kept, List.range_succ, List.filter_append, h]
theorem kept_no {K : Nat → Bool} {i : Nat} (h : K i = true) : kept K (i + 1) = kept K i := by simp [kept, List.range_succ, List.filter_append, h]
theorem kept_le (K : Nat → Bool) (i : Nat) : (kept K i).length ≤ i := by
  have := List.length_filter_le (fun k => !K k) (List.range i)
  simpa [kept] using this
theorem off_zero (p K : Nat → Bool) : off p K 0 = p := by funext k; simp [off]
theorem off_yes {p K : Nat → Bool} {i : Nat} (h : K i = false) : off p K (i + 1) = off p K i := by
  funext k
  unfold off
  by_cases e : k = i
  · subst e; simp [h]
  · have : decide (k < i + 1) = decide (k < i) := by simp; omega
    rw [this]
theorem off_no {p K : Nat → Bool} {i : Nat} (h : K i = true) : off p K (i + 1) = clr (off p K i) i := by
  funext k
  unfold off clr
  by_cases e : k = i
  · subst e; simp [h]
  · have : decide (k < i + 1) = decide (k < i) := by simp; omega
    simp [this, e]
theorem off_at (q K : Nat → Bool) (i : Nat) : off q K i i = q i := by simp [off]

def own4 (b g gh gk : Nat) : Nat → Prop := fun k => k = b ∨ k = g ∨ k = gh ∨ k = gk

/-- What holds at the head of round i of filter; c events have been kept. -/
structure FilRel (w : World) (b bx g gh gk n W : Nat) (s : SimC) (p q K : Nat → Bool) (A P : Nat → Int) (i c : Nat) (E : List Nat) (wr : World) : Prop where
  due : Due wr g n A P E
  len : E.length = n
  tk : E.take c = kept K i
  cnt : c = (kept K i).length
  tail : ∀ j, i ≤ j → j < n → E.getD j 0 = j
  rs : wr.rowIs b 43 211 (simF { s with sn := s.sn - ((i : Int) - (c : Int)) })
  rh : wr.rowIs gh 25 W (wf (off p K i))
  rk : wr.rowIs gk 25 W (wf (off q K i))
  rx : wr.rowIs bx 23 1 (fun _ => .pointer (some ⟨b, 0, none⟩))
  kp : Kept (own4 b g gh gk) w wr

/-- The blocks of this road are apart. -/
structure Apart (b bx g gh gk : Nat) : Prop where
  h1 : b ≠ g
  h2 : b ≠ gh
  h3 : b ≠ gk
  h4 : g ≠ gh
  h5 : g ≠ gk
  h6 : gh ≠ gk
  h7 : bx ≠ b
  h8 : bx ≠ g
  h9 : bx ≠ gh
  h10 : bx ≠ gk

section
variable {w wr : World} {b bx g gh gk n W i c : Nat} {s : SimC} {p q K : Nat → Bool} {A P : Nat → Int} {E : List Nat}

/-- Behind a draw. -/
theorem FilRel.drewN (h : FilRel w b bx g gh gk n W s p q K A P i c E wr) (m : Nat) : FilRel w b bx g gh gk n W s p q K A P i c E (wr.drewN m) :=
  ⟨h.due, h.len, h.tk, h.cnt, h.tail, h.rs, h.rh, h.rk, h.rx, h.kp.drewN m⟩

/-- The event is dropped. -/
theorem FilRel.no {w' : World} (h : FilRel w b bx g gh gk n W s p q K A P i c E wr) (ap : Apart b bx g gh gk) (hK : K i = true)
    (b1 : w'.rowIs b 43 211 (simF { s with sn := s.sn - ((i : Int) - (c : Int)) - 1 })) (b2 : w'.rowIs gh 25 W (wf (clr (off p K i) i))) (b3 : w'.rowIs gk 25 W (wf (clr (off q K i) i))) (b4 : Kept (fun k => k = b ∨ k = gh ∨ k = gk) wr w') :
    FilRel w b bx g gh gk n W s p q K A P (i + 1) c E w' := by
  refine ⟨h.due.kept b4 (by have := ap.h1; have := ap.h4; have := ap.h5; omega), h.len, by rw [kept_no hK]; exact h.tk, by rw [kept_no hK]; exact h.cnt, fun j h1 h2 => h.tail j (by omega) h2, ?_, by rw [off_no hK]; exact b2, by rw [off_no hK]; exact b3,
    b4.row h.rx (by have := ap.h7; have := ap.h9; have := ap.h10; omega), h.kp.trans (b4.mono (fun k _ hk => by unfold own4; omega))⟩
  have e : s.sn - (((i + 1 : Nat) : Int) - (c : Int)) = s.sn - ((i : Int) - (c : Int)) - 1 := by omega
  rw [e]; exact b1

/-- The event is kept: it moves to place c. -/
theorem FilRel.yes (h : FilRel w b bx g gh gk n W s p q K A P i c E wr) (ap : Apart b bx g gh gk) (hK : K i = false) (hi : i < n) :
    FilRel w b bx g gh gk n W s p q K A P (i + 1) (c + 1) (E.set c i) (put5 wr g c A P i) := by
  have hc : c ≤ i := by rw [h.cnt]; exact kept_le K i
  have hl := h.len
  have k5 := put5_kept (w := wr) (g := g) (A := A) (P := P) (own := fun k => k = g) c i rfl
  refine ⟨h.due.put (by omega) i _ (by simp; omega) (fun j hj hne => ⟨by simpa using hj, getD_set_ne _ _ _ _ (fun e => hne e.symm)⟩) (getD_set_eq _ _ _ (by omega)), by simpa using hl, ?_, by rw [kept_yes hK]; simp [← h.cnt], ?_, ?_, ?_, ?_,
    k5.row h.rx ap.h8, h.kp.trans (k5.mono (fun k _ hk => by unfold own4; omega))⟩
  · rw [kept_yes hK, ← h.tk]
    apply List.ext_getElem?
    intro j
    simp only [List.getElem?_take, List.getElem?_set]
    by_cases e1 : j < c
    · rw [if_pos (by omega), if_neg (by omega), List.getElem?_append_left (by simp; omega), List.getElem?_take, if_pos e1]
    · by_cases e2 : j = c
      · subst e2
        rw [if_pos (by omega), if_pos rfl, if_pos (by omega), List.getElem?_append_right (by simp; omega)]
        simp [show min j E.length = j by omega]
      · rw [if_neg (by omega), List.getElem?_eq_none (by simp; omega)]
  · intro j h1 h2
    rw [getD_set_ne _ _ _ _ (by omega)]
    exact h.tail j (by omega) h2
  · have e : s.sn - (((i + 1 : Nat) : Int) - ((c + 1 : Nat) : Int)) = s.sn - ((i : Int) - (c : Int)) := by omega
    rw [e]; exact k5.row h.rs ap.h1
  · rw [off_yes hK]; exact k5.row h.rh (fun e => ap.h4 e.symm)
  · rw [off_yes hK]; exact k5.row h.rk (fun e => ap.h5 e.symm)
end
end Go.Proofs.Ybulkzim.Comp
