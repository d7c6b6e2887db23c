import Derived.Test.YbulkzkcDoorDigits
import Derived.Deep.OwnRows
namespace Go.Proofs.YbulkzkcDoor.Rd
open Go.RowKit

/-- Every old block but those of 'own' is as it was. -/
structure Kept (own : Nat → Prop) (w w' : World) : Prop where
  os : w'.os = w.os
  tape : w'.tape = w.tape
  output : w'.output = w.output
  size : w.heap.size ≤ w'.heap.size
  block : ∀ k, k < w.heap.size → ¬ own k → w'.heap[k]? = w.heap[k]?

def none' : Nat → Prop := fun _ => False

theorem Kept.refl (own : Nat → Prop) (w : World) : Kept own w w := ⟨rfl, rfl, rfl, Nat.le_refl _, fun _ _ _ => rfl⟩
theorem Kept.trans {own : Nat → Prop} {a b c : World} (h : Kept own a b) (k : Kept own b c) : Kept own a c :=
  ⟨k.os.trans h.os, k.tape.trans h.tape, k.output.trans h.output, Nat.le_trans h.size k.size, fun i hi ho => (k.block i (Nat.lt_of_lt_of_le hi h.size) ho).trans (h.block i hi ho)⟩
theorem Kept.mono {own own' : Nat → Prop} {a b : World} (h : Kept own a b) (hm : ∀ k, k < a.heap.size → own k → own' k) : Kept own' a b :=
  ⟨h.os, h.tape, h.output, h.size, fun k hk ho => h.block k hk fun e => ho (hm k hk e)⟩
theorem Kept.any {own : Nat → Prop} {a b : World} (h : Kept none' a b) : Kept own a b := h.mono fun _ _ e => e.elim
theorem Kept.drew {own : Nat → Prop} {a b : World} (h : Kept own a b) : Kept own a b.drew := ⟨h.os, h.tape, h.output, h.size, h.block⟩
theorem Kept.drewN {own : Nat → Prop} {a b : World} (h : Kept own a b) (n : Nat) : Kept own a (b.drewN n) := ⟨h.os, h.tape, h.output, h.size, h.block⟩
theorem Kept.setCell {own : Nat → Prop} {a b : World} (h : Kept own a b) {p : Addr} (hp : own p.block) (u : Value) : Kept own a (b.setCell p u) :=
  ⟨h.os, h.tape, h.output, by simpa [World.setCell] using h.size, fun k hk ho => (Below.heap_setCell _ _ _ _ (fun e => ho (by rw [e]; exact hp))).trans (h.block k hk ho)⟩
theorem Kept.alloc {own : Nat → Prop} {a b : World} (h : Kept own a b) (o : Obj) : Kept own a (b.alloc o) :=
  ⟨h.os, h.tape, h.output, by have := h.size; simp; omega, fun k hk ho => (Below.heap_alloc _ _ _ (Nat.lt_of_lt_of_le hk h.size)).trans (h.block k hk ho)⟩
theorem Kept.row {own : Nat → Prop} {a c : World} (h : Kept own a c) {b : Nat} {t : TypeId} {n : Nat} {f : Nat → Value} (r : a.rowIs b t n f) (hb : ¬ own b) : c.rowIs b t n f := r.of_block (h.block b r.lt hb)
theorem Kept.below {own : Nat → Prop} {a c : World} (h : Kept own a c) {B : Nat} (hB : B ≤ a.heap.size) (ho : ∀ k, own k → B ≤ k) : Below B a c :=
  ⟨h.os, h.tape, h.output, h.size, fun k hk => h.block k (by omega) fun e => by have := ho k e; omega⟩
theorem rowIs_drewN {w : World} {b : Nat} {t : TypeId} {n : Nat} {f : Nat → Value} (r : w.rowIs b t n f) (m : Nat) : (w.drewN m).rowIs b t n f := r

/-- '[]byte(s)': a new row that holds the bytes. -/
theorem conv_bytes (s : ByteArray) (w : World) : ∃ cap W, (convert 9 30 (.string s)).run Ybad.prog w = .ok (.slice (some ⟨w.heap.size, 0, none⟩) s.size cap) W ∧ Kept none' w W ∧ ∀ j (h : j < s.size), W.cell? ⟨w.heap.size, j, none⟩ = some (.int .u8 ((s[j]).toNat : Nat)) := by
  refine ⟨_, _, run_bytes_of_string w 9 30 5 s rfl rfl rfl, ?_, fun j h => ?_⟩
  · exact ((Kept.refl _ w).drew).alloc _
  · have h1 : j < s.data.size := h
    have e := World.cell?_alloc_mark w.drew (bytesRow s (grownCap w s.size 0 5)) 5 ((bytesRow s (grownCap w s.size 0 5)).size, (bytesRow s (grownCap w s.size 0 5)).size + 1) j
    rw [bytesRow_at s _ j h1] at e
    exact e
end Go.Proofs.YbulkzkcDoor.Rd
