import Derived.Test.YbulkzimBase
import Derived.Test.YbulkzimBits
import Derived.Deep.OwnRows
namespace Go.Proofs.Ybulkzim.Comp
open Go.RowKit

/-- What of a Simulation turns on this road. -/
structure SimC where
  dv : Value
  iv : Value
  hv : Value
  kv : Value
  evn : Int
  sn : Int
  dead : Int

def zscells : List Value := [.int .i64 0, .int .u64 0] ++ zqcells ++ [.slice none 0 0, .slice none 0 0, .slice none 0 0, .int .i64 0, .int .i64 0, .int .i64 0, .bool false, .bool false, .pointer none, .pointer none, .pointer none, .slice none 0 0]

/-- Its cells. -/
def simF (s : SimC) : Nat → Value := fun o =>
  if o = 4 then s.dv else if o = 198 then .int .i64 s.evn else if o = 199 then s.iv else if o = 200 then s.hv else if o = 201 then s.kv else if o = 202 then .int .i64 s.sn else if o = 204 then .int .i64 s.dead else zscells.getD o .nilFunc

def simZ : SimC := ⟨.slice none 0 0, .slice none 0 0, .slice none 0 0, .slice none 0 0, 0, 0, 0⟩

theorem simF_dv (s : SimC) (v : Value) : (fun j => if j = 4 then v else simF s j) = simF { s with dv := v } := by funext j; unfold simF; by_cases h : j = 4 <;> simp [h]
theorem simF_evn (s : SimC) (v : Int) : (fun j => if j = 198 then .int .i64 v else simF s j) = simF { s with evn := v } := by funext j; unfold simF; by_cases h : j = 198 <;> simp [h]
theorem simF_iv (s : SimC) (v : Value) : (fun j => if j = 199 then v else simF s j) = simF { s with iv := v } := by funext j; unfold simF; by_cases h : j = 199 <;> simp [h]
theorem simF_hv (s : SimC) (v : Value) : (fun j => if j = 200 then v else simF s j) = simF { s with hv := v } := by funext j; unfold simF; by_cases h : j = 200 <;> simp [h]
theorem simF_kv (s : SimC) (v : Value) : (fun j => if j = 201 then v else simF s j) = simF { s with kv := v } := by funext j; unfold simF; by_cases h : j = 201 <;> simp [h]
theorem simF_sn (s : SimC) (v : Int) : (fun j => if j = 202 then .int .i64 v else simF s j) = simF { s with sn := v } := by funext j; unfold simF; by_cases h : j = 202 <;> simp [h]
theorem simF_dead (s : SimC) (v : Int) : (fun j => if j = 204 then .int .i64 v else simF s j) = simF { s with dead := v } := by funext j; unfold simF; by_cases h : j = 204 <;> simp [h]

/-- The row of the words of p. -/
def wf (p : Nat → Bool) : Nat → Value := fun j => .int .u64 ((word p j : Nat) : Int)

theorem wf_clr (p : Nat → Bool) (i : Nat) : (fun j => if j = i / 64 then Value.int .u64 ((word (clr p i) (i / 64) : Nat) : Int) else wf p j) = wf (clr p i) := by
  funext j
  unfold wf
  by_cases h : j = i / 64
  · simp [h]
  · rw [if_neg h, clr_other p i j h]
theorem wf_put (p : Nat → Bool) (i : Nat) : (fun j => if j = i / 64 then Value.int .u64 ((word (put p i) (i / 64) : Nat) : Int) else wf p j) = wf (put p i) := by
  funext j
  unfold wf
  by_cases h : j = i / 64
  · simp [h]
  · rw [if_neg h, put_other p i j h]

/-- Every old block but those of 'own' is as it was. -/
structure Kept (own : Nat → Prop) (w w' : World) : Prop where
  os : w'.os = w.os
  tape : w'.tape = w.tape
  output : w'.output = w.output
  size : w.heap.size ≤ w'.heap.size
  block : ∀ k, k < w.heap.size → ¬ own k → w'.heap[k]? = w.heap[k]?

theorem Kept.refl (own : Nat → Prop) (w : World) : Kept own w w := ⟨rfl, rfl, rfl, Nat.le_refl _, fun _ _ _ => rfl⟩
theorem Kept.trans {own : Nat → Prop} {a b c : World} (h : Kept own a b) (k : Kept own b c) : Kept own a c :=
  ⟨k.os.trans h.os, k.tape.trans h.tape, k.output.trans h.output, Nat.le_trans h.size k.size, fun i hi ho => (k.block i (Nat.lt_of_lt_of_le hi h.size) ho).trans (h.block i hi ho)⟩
theorem Kept.mono {own own' : Nat → Prop} {a b : World} (h : Kept own a b) (hm : ∀ k, k < a.heap.size → own k → own' k) : Kept own' a b :=
  ⟨h.os, h.tape, h.output, h.size, fun k hk ho => h.block k hk fun e => ho (hm k hk e)⟩
theorem Kept.drew {own : Nat → Prop} {a b : World} (h : Kept own a b) : Kept own a b.drew := ⟨h.os, h.tape, h.output, h.size, h.block⟩
theorem Kept.drewN {own : Nat → Prop} {a b : World} (h : Kept own a b) (n : Nat) : Kept own a (b.drewN n) := ⟨h.os, h.tape, h.output, h.size, h.block⟩
theorem Kept.setCell {own : Nat → Prop} {a b : World} (h : Kept own a b) {p : Addr} (hp : own p.block) (u : Value) : Kept own a (b.setCell p u) :=
  ⟨h.os, h.tape, h.output, by simpa [World.setCell] using h.size, fun k hk ho => (Below.heap_setCell _ _ _ _ (fun e => ho (by rw [e]; exact hp))).trans (h.block k hk ho)⟩
theorem Kept.alloc {own : Nat → Prop} {a b : World} (h : Kept own a b) (o : Obj) : Kept own a (b.alloc o) :=
  ⟨h.os, h.tape, h.output, by have := h.size; simp; omega, fun k hk ho => (Below.heap_alloc _ _ _ (Nat.lt_of_lt_of_le hk h.size)).trans (h.block k hk ho)⟩
theorem Kept.row {own : Nat → Prop} {a c : World} (h : Kept own a c) {b : Nat} {t : TypeId} {n : Nat} {f : Nat → Value} (r : a.rowIs b t n f) (hb : ¬ own b) : c.rowIs b t n f := r.of_block (h.block b r.lt hb)
theorem Kept.below {own : Nat → Prop} {a c : World} (h : Kept own a c) {B : Nat} (hB : B ≤ a.heap.size) (ho : ∀ k, own k → B ≤ k) : Below B a c :=
  ⟨h.os, h.tape, h.output, h.size, fun k hk => h.block k (by omega) fun e => by have := ho k e; omega⟩
theorem rowIs_drewN {w : World} {b : Nat} {t : TypeId} {n : Nat} {f : Nat → Value} (r : w.rowIs b t n f) (m : Nat) : (w.drewN m).rowIs b t n f := r

end Go.Proofs.Ybulkzim.Comp
