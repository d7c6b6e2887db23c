import Derived.Test.YbulkznwFmtErr
import Derived.WalkKit
import Derived.WalkLawsBesides
import Derived.WalkSpells
import Derived.KernelRfl
import Derived.BigQuiet
import Derived.Deep.QuietTactic
import Derived.Deep.DeepMust
import Derived.Deep.DeepCutAuto
import Derived.Laws.BitsAllLaws
import Derived.Below
import Derived.Deep.OwnRows
namespace Go.Proofs.YbulkznwFmt.Lk
open Go.RowKit Go.Extern.Stop Go.Stop Go.Extern

theorem toHid {p : Prop} (h : p) : Hid p := h

/-- Every old block but those of 'own' is as it was. -/
structure Kept (own : Nat → Prop) (w w' : World) : Prop where
  os : w'.os = w.os
  tape : w'.tape = w.tape
  output : w'.output = w.output
  size : w.heap.size ≤ w'.heap.size
  block : ∀ k, k < w.heap.size → ¬ own k → w'.heap[k]? = w.heap[k]?

def none' : Nat → Prop := fun _ => False

theorem Kept.refl (own : Nat → Prop) (w : World) : Kept own w w := ⟨rfl, rfl, rfl, Nat.le_refl _, fun _ _ _ => rfl⟩
theorem Kept.trans {own : Nat → Prop} {a b c : World} (h : Kept own a b) (k : Kept own b c) : Kept own a c :=
  ⟨k.os.trans h.os, k.tape.trans h.tape, k.output.trans h.output, Nat.le_trans h.size k.size, fun i hi ho => (k.block i (Nat.lt_of_lt_of_le hi h.size) ho).trans (h.block i hi ho)⟩
theorem Kept.mono {own own' : Nat → Prop} {a b : World} (h : Kept own a b) (hm : ∀ k, k < a.heap.size → own k → own' k) : Kept own' a b :=
  ⟨h.os, h.tape, h.output, h.size, fun k hk ho => h.block k hk fun e => ho (hm k hk e)⟩
theorem Kept.any {own : Nat → Prop} {a b : World} (h : Kept none' a b) : Kept own a b := h.mono fun _ _ e => e.elim
theorem Kept.drew {own : Nat → Prop} {a b : World} (h : Kept own a b) : Kept own a b.drew := ⟨h.os, h.tape, h.output, h.size, h.block⟩
theorem Kept.drewN {own : Nat → Prop} {a b : World} (h : Kept own a b) (n : Nat) : Kept own a (b.drewN n) := ⟨h.os, h.tape, h.output, h.size, h.block⟩
theorem Kept.setCell {own : Nat → Prop} {a b : World} (h : Kept own a b) {p : Addr} (hp : own p.block) (u : Value) : Kept own a (b.setCell p u) :=
  ⟨h.os, h.tape, h.output, by simpa [World.setCell] using h.size, fun k hk ho => (Below.heap_setCell _ _ _ _ (fun e => ho (by rw [e]; exact hp))).trans (h.block k hk ho)⟩
theorem Kept.alloc {own : Nat → Prop} {a b : World} (h : Kept own a b) (o : Obj) : Kept own a (b.alloc o) :=
  ⟨h.os, h.tape, h.output, by have := h.size; simp; omega, fun k hk ho => (Below.heap_alloc _ _ _ (Nat.lt_of_lt_of_le hk h.size)).trans (h.block k hk ho)⟩
theorem Kept.row {own : Nat → Prop} {a c : World} (h : Kept own a c) {b : Nat} {t : TypeId} {n : Nat} {f : Nat → Value} (r : a.rowIs b t n f) (hb : ¬ own b) : c.rowIs b t n f := r.of_block (h.block b r.lt hb)
theorem Kept.below {own : Nat → Prop} {a c : World} (h : Kept own a c) {B : Nat} (hB : B ≤ a.heap.size) (ho : ∀ k, own k → B ≤ k) : Below B a c :=
  ⟨h.os, h.tape, h.output, h.size, fun k hk => h.block k (by omega) fun e => by have := ho k e; omega⟩
theorem rowIs_drewN {w : World} {b : Nat} {t : TypeId} {n : Nat} {f : Nat → Value} (r : w.rowIs b t n f) (m : Nat) : (w.drewN m).rowIs b t n f := r


set_option maxHeartbeats 800000 in
theorem errorf_no (F : Interp) (B : Nat) (s : ByteArray) (w : World) (hF : F.answers w.tape) (hc : w.cell? ⟨B, 0, none⟩ = some (.iface 9 (.string s))) :
    Calls Ybaf.prog 9 #[.string ⟨#[110, 111, 32, 37, 115, 32, 105, 110, 100, 101, 120]⟩, .slice (some ⟨B, 0, none⟩) 1 1] w fun e w' => ∃ a, e = .returned (.iface 56 (.pointer (some a))) ∧ Kept none' w w' := by
  have hF' := answers_open hF
  go_enter Ybaf.func9, Ybaf.ntmps9
  go_wp2
  apply rows_value nextTurns
  case hr =>
    go_simp
    exact ⟨rfl, rfl⟩
  case h =>
    go_wp2
    go_ret
    exact ⟨_, rfl, ((Kept.refl _ w).drew).alloc _⟩

set_option maxHeartbeats 800000 in
theorem errorf_at (F : Interp) (B : Nat) (s : ByteArray) (i n : Int) (w : World) (hF : F.answers w.tape) (hc : w.cell? ⟨B, 0, none⟩ = some (.iface 9 (.string s))) (hc1 : w.cell? ⟨B, 1, none⟩ = some (.iface 2 (.int .i64 i))) (hc2 : w.cell? ⟨B, 2, none⟩ = some (.iface 3 (.int .i64 n))) :
    Calls Ybaf.prog 9 #[.string ⟨#[37, 115, 32, 105, 110, 100, 101, 120, 32, 37, 100, 44, 32, 111, 102, 32, 37, 100, 32, 101, 110, 116, 114, 105, 101, 115]⟩, .slice (some ⟨B, 0, none⟩) 3 3] w fun e w' => ∃ a, e = .returned (.iface 56 (.pointer (some a))) ∧ Kept none' w w' := by
  have hF' := answers_open hF
  go_enter Ybaf.func9, Ybaf.ntmps9
  go_wp2
  apply rows_value nextTurns
  case hr =>
    go_simp
    exact ⟨rfl, rfl⟩
  case h =>
    go_wp2
    go_ret
    exact ⟨_, rfl, ((Kept.refl _ w).drew).alloc _⟩

set_option maxHeartbeats 800000 in
theorem errorf_oct (F : Interp) (B : Nat) (i n : Int) (w : World) (hF : F.answers w.tape) (hc : w.cell? ⟨B, 0, none⟩ = some (.iface 3 (.int .i64 i))) (hc1 : w.cell? ⟨B, 1, none⟩ = some (.iface 3 (.int .i64 n))) :
    Calls Ybaf.prog 9 #[.string ⟨#[82, 68, 65, 84, 65, 32, 111, 102, 32, 37, 100, 32, 111, 99, 116, 101, 116, 115, 32, 105, 115, 32, 108, 111, 110, 103, 101, 114, 32, 116, 104, 97, 110, 32, 37, 100]⟩, .slice (some ⟨B, 0, none⟩) 2 2] w fun e w' => ∃ a, e = .returned (.iface 56 (.pointer (some a))) ∧ Kept none' w w' := by
  have hF' := answers_open hF
  go_enter Ybaf.func9, Ybaf.ntmps9
  go_wp2
  apply rows_value nextTurns
  case hr =>
    go_simp
    exact ⟨rfl, rfl⟩
  case h =>
    go_wp2
    go_ret
    exact ⟨_, rfl, ((Kept.refl _ w).drew).alloc _⟩

end Go.Proofs.YbulkznwFmt.Lk
