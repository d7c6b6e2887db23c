import Derived.Test.YbulkzmgFmtErr
import Derived.WalkKit
import Derived.WalkLawsBesides
import Derived.WalkSpells
import Derived.KernelRfl
import Derived.BigQuiet
import Derived.Deep.QuietTactic
import Derived.Deep.DeepMust
import Derived.Deep.DeepCutAuto
import Derived.Laws.BitsAllLaws
import Derived.Below
import Derived.Deep.OwnRows
namespace Go.Proofs.YbulkzmgFmt.Sc
open Go.RowKit Go.Extern.Stop Go.Stop Go.Extern
set_option linter.unusedVariables false

theorem toHid {p : Prop} (h : p) : Hid p := h

/-- Block b is a row of n plain cells, none of them frozen. -/
def Sh (w : World) (b : Nat) (t : TypeId) (n : Nat) : Prop := ∃ cs : Array Value, w.heap[b]? = some (.cells cs t (0, 0)) ∧ cs.size = n

theorem Sh.lt {w : World} {b : Nat} {t : TypeId} {n : Nat} (h : Sh w b t n) : b < w.heap.size := by
  obtain ⟨c, hb, _⟩ := h
  exact (Array.getElem?_eq_some_iff.1 hb).1
theorem Sh.of_block {w w' : World} {b : Nat} {t : TypeId} {n : Nat} (h : Sh w b t n) (e : w'.heap[b]? = w.heap[b]?) : Sh w' b t n := by
  obtain ⟨c, hb, hn⟩ := h
  exact ⟨c, e.trans hb, hn⟩
theorem Sh.frozen {w : World} {b : Nat} {t : TypeId} {n : Nat} (h : Sh w b t n) (i : Nat) : w.frozen? ⟨b, i, none⟩ = false := by
  obtain ⟨c, hb, _⟩ := h
  simp [World.frozen?, hb]
theorem Sh.some {w : World} {b : Nat} {t : TypeId} {n : Nat} (h : Sh w b t n) {i : Nat} (hi : i < n) : ∃ v, w.cell? ⟨b, i, none⟩ = some v := by
  obtain ⟨c, hb, hn⟩ := h
  have : i < c.size := by omega
  exact ⟨c[i], by simp [World.cell?, hb, this]⟩
theorem Sh.setCell {w : World} {b : Nat} {t : TypeId} {n : Nat} (h : Sh w b t n) (p : Addr) (v : Value) : Sh (w.setCell p v) b t n := by
  by_cases e : b = p.block
  · obtain ⟨c, hb, hn⟩ := h
    subst e
    refine ⟨if p.spot.isSome then c else c.setIfInBounds p.off v, by simp [World.setCell, Array.getElem?_modify, hb], ?_⟩
    split
    · exact hn
    · simpa using hn
  · exact h.of_block (Below.heap_setCell _ _ _ _ e)
theorem Sh.row {w : World} {b : Nat} {t : TypeId} {n : Nat} {f : Nat → Value} (h : w.rowIs b t n f) : Sh w b t n := by
  obtain ⟨c, hb, hn, _⟩ := h
  exact ⟨c, hb, hn⟩

/-- What a call may turn: the cells of 'own', and nothing else that was there. -/
structure KC (own : Nat → Nat → Prop) (w w' : World) : Prop where
  os : w'.os = w.os
  tape : w'.tape = w.tape
  output : w'.output = w.output
  size : w.heap.size ≤ w'.heap.size
  block : ∀ b, b < w.heap.size → (∀ o, ¬ own b o) → w'.heap[b]? = w.heap[b]?
  cell : ∀ b o v, ¬ own b o → w.cell? ⟨b, o, none⟩ = some v → w'.cell? ⟨b, o, none⟩ = some v
  shape : ∀ b t n, Sh w b t n → Sh w' b t n

def nob : Nat → Nat → Prop := fun _ _ => False

theorem KC.refl (own : Nat → Nat → Prop) (w : World) : KC own w w := ⟨rfl, rfl, rfl, Nat.le_refl _, fun _ _ _ => rfl, fun _ _ _ _ h => h, fun _ _ _ h => h⟩
theorem KC.mono {own own' : Nat → Nat → Prop} {a b : World} (h : KC own a b) (hm : ∀ k o, k < a.heap.size → own k o → own' k o) : KC own' a b :=
  ⟨h.os, h.tape, h.output, h.size, fun k hk ho => h.block k hk fun o e => ho o (hm k o hk e), fun k o v ho hc => h.cell k o v (fun e => ho (hm k o (block_lt_of_cell hc) e)) hc, h.shape⟩
theorem KC.trans {own : Nat → Nat → Prop} {a b c : World} (h : KC own a b) (k : KC own b c) : KC own a c :=
  ⟨k.os.trans h.os, k.tape.trans h.tape, k.output.trans h.output, Nat.le_trans h.size k.size, fun i hi ho => (k.block i (Nat.lt_of_lt_of_le hi h.size) ho).trans (h.block i hi ho),
    fun i o v ho hc => k.cell i o v ho (h.cell i o v ho hc), fun i t n hs => k.shape i t n (h.shape i t n hs)⟩
theorem KC.any {own : Nat → Nat → Prop} {a b : World} (h : KC nob a b) : KC own a b := h.mono fun _ _ _ e => e.elim
/-- Whatever keeps the old blocks whole. -/
theorem KC.blocks {own : Nat → Nat → Prop} {a b : World} (h1 : b.os = a.os) (h2 : b.tape = a.tape) (h3 : b.output = a.output) (h4 : a.heap.size ≤ b.heap.size) (h5 : ∀ k, k < a.heap.size → b.heap[k]? = a.heap[k]?) : KC own a b :=
  ⟨h1, h2, h3, h4, fun k hk _ => h5 k hk, fun k o v _ hc => (World.cell?_of_block (w := a) (h5 k (block_lt_of_cell hc))).trans hc, fun k t n hs => hs.of_block (h5 k hs.lt)⟩
theorem KC.ofBelow {own : Nat → Nat → Prop} {a b : World} (h : Below a.heap.size a b) : KC own a b := KC.blocks h.os h.tape h.output h.size fun k hk => h.block k hk
theorem KC.drew {own : Nat → Nat → Prop} {a b : World} (h : KC own a b) : KC own a b.drew := ⟨h.os, h.tape, h.output, h.size, h.block, h.cell, h.shape⟩
theorem KC.drewN {own : Nat → Nat → Prop} {a b : World} (h : KC own a b) (n : Nat) : KC own a (b.drewN n) := ⟨h.os, h.tape, h.output, h.size, h.block, h.cell, h.shape⟩
theorem KC.alloc1 {own : Nat → Nat → Prop} (w : World) (o : Obj) : KC own w (w.alloc o) := KC.blocks rfl rfl rfl (by simp) fun _ hk => Below.heap_alloc _ _ _ hk
theorem KC.alloc {own : Nat → Nat → Prop} {a b : World} (h : KC own a b) (o : Obj) : KC own a (b.alloc o) := h.trans (KC.alloc1 b o)
theorem KC.set1 {own : Nat → Nat → Prop} (w : World) (b o : Nat) (u : Value) (hp : own b o) : KC own w (w.setCell ⟨b, o, none⟩ u) :=
  ⟨rfl, rfl, rfl, by simp, fun k _ ho => Below.heap_setCell _ _ _ _ (fun e => ho o (by rw [e]; exact hp)),
    fun k o' v ho hc => (World.cell?_setCell_other _ _ _ _ (fun e => ho (by cases e; exact hp))).trans hc, fun k t n hs => hs.setCell _ _⟩
theorem KC.set {own : Nat → Nat → Prop} {a w : World} (h : KC own a w) {b o : Nat} (hp : own b o) (u : Value) : KC own a (w.setCell ⟨b, o, none⟩ u) := h.trans (KC.set1 w b o u hp)
/-- Into a block that is new. -/
theorem KC.setNew {own : Nat → Nat → Prop} {a w : World} (h : KC own a w) {b : Nat} (hb : a.heap.size ≤ b) (o : Nat) (u : Value) : KC own a (w.setCell ⟨b, o, none⟩ u) :=
  ⟨h.os, h.tape, h.output, by simpa using h.size, fun k hk ho => (Below.heap_setCell _ _ _ _ (by show k ≠ b; omega)).trans (h.block k hk ho),
    fun k o' v ho hc => (World.cell?_setCell_other _ _ _ _ (fun e => by cases e; have := block_lt_of_cell hc; simp only at this; omega)).trans (h.cell k o' v ho hc), fun k t n hs => (h.shape k t n hs).setCell _ _⟩
theorem KC.below {own : Nat → Nat → Prop} {a c : World} (h : KC own a c) {B : Nat} (hB : B ≤ a.heap.size) (ho : ∀ k o, own k o → B ≤ k) : Below B a c :=
  ⟨h.os, h.tape, h.output, h.size, fun k hk => h.block k (by omega) fun o e => by have := ho k o e; omega⟩
theorem KC.ans {own : Nat → Nat → Prop} {a b : World} {F : Interp} (h : KC own a b) (hF : F.answers a.tape) : F.answers b.tape := by rw [h.tape]; exact hF

/-- An error that is not nil. -/
def IsErr (w : World) (e : Value) : Prop := ∃ a s, e = .iface 110 (.pointer (some a)) ∧ w.cell? a = some (.string s)

set_option maxHeartbeats 800000 in
theorem errorf_empty (F : Interp) (B : Nat) (s : ByteArray) (w : World) (hF : F.answers w.tape) (hc : w.cell? ⟨B, 0, none⟩ = some (.iface 9 (.string s))) :
    Calls Ybaf.prog 9 #[.string ⟨#[101, 109, 112, 116, 121, 32, 37, 115, 32, 110, 97, 109, 101]⟩, .slice (some ⟨B, 0, none⟩) 1 1] w fun e w' => ∃ a, e = .returned (.iface 110 (.pointer (some a))) ∧ KC nob w w' := by
  have hF' := answers_open hF
  go_enter Ybaf.func9, Ybaf.ntmps9
  go_wp2
  apply rows_value nextTurns
  case hr =>
    go_simp
    exact ⟨rfl, rfl⟩
  case h =>
    go_wp2
    go_ret
    exact ⟨_, rfl, ((KC.refl _ w).drew).alloc _⟩

set_option maxHeartbeats 800000 in
theorem errorf_ctl (F : Interp) (B : Nat) (s s' : ByteArray) (w : World) (hF : F.answers w.tape) (hc : w.cell? ⟨B, 0, none⟩ = some (.iface 9 (.string s))) (hc1 : w.cell? ⟨B, 1, none⟩ = some (.iface 9 (.string s'))) :
    Calls Ybaf.prog 9 #[.string ⟨#[37, 115, 32, 110, 97, 109, 101, 32, 37, 113, 32, 104, 111, 108, 100, 115, 32, 97, 32, 115, 112, 97, 99, 101, 32, 111, 114, 32, 97, 32, 99, 111, 110, 116, 114, 111, 108, 32, 99, 104, 97, 114, 97, 99, 116, 101, 114]⟩, .slice (some ⟨B, 0, none⟩) 2 2] w fun e w' => ∃ a, e = .returned (.iface 110 (.pointer (some a))) ∧ KC nob w w' := by
  have hF' := answers_open hF
  go_enter Ybaf.func9, Ybaf.ntmps9
  go_wp2
  apply rows_value nextTurns
  case hr =>
    go_simp
    exact ⟨rfl, rfl⟩
  case h =>
    go_wp2
    go_ret
    exact ⟨_, rfl, ((KC.refl _ w).drew).alloc _⟩

set_option maxHeartbeats 800000 in
theorem errorf_typ (F : Interp) (B : Nat) (s : ByteArray) (w : World) (hF : F.answers w.tape) (hc : w.cell? ⟨B, 0, none⟩ = some (.iface 9 (.string s))) :
    Calls Ybaf.prog 9 #[.string ⟨#[116, 121, 112, 101, 32, 37, 113, 32, 105, 115, 32, 110, 111, 116, 32, 100, 101, 102, 105, 110, 101, 100]⟩, .slice (some ⟨B, 0, none⟩) 1 1] w fun e w' => ∃ v, e = .returned v ∧ IsErr w' v ∧ KC nob w w' := by
  have hF' := answers_open hF
  go_enter Ybaf.func9, Ybaf.ntmps9
  go_wp2
  apply rows_value nextTurns
  case hr =>
    go_simp
    exact ⟨rfl, rfl⟩
  case h =>
    go_wp2
    go_ret
    exact ⟨_, rfl, ⟨⟨w.heap.size, 0, none⟩, _, rfl, cell_of_row _ _ _ _ _ _ (heap_alloc_new _ _)⟩, ((KC.refl _ w).drew).alloc _⟩

set_option maxHeartbeats 800000 in
theorem errorf_cnt (F : Interp) (B : Nat) (s s' : ByteArray) (i n : Int) (w : World) (hF : F.answers w.tape) (hc : w.cell? ⟨B, 0, none⟩ = some (.iface 9 (.string s))) (hc1 : w.cell? ⟨B, 1, none⟩ = some (.iface 9 (.string s')))
    (hc2 : w.cell? ⟨B, 2, none⟩ = some (.iface 3 (.int .i64 i))) (hc3 : w.cell? ⟨B, 3, none⟩ = some (.iface 3 (.int .i64 n))) :
    Calls Ybaf.prog 9 #[.string ⟨#[102, 117, 110, 99, 116, 105, 111, 110, 32, 37, 115, 46, 37, 115, 32, 104, 97, 115, 32, 37, 100, 32, 97, 114, 103, 117, 109, 101, 110, 116, 115, 59, 32, 97, 32, 102, 117, 110, 99, 116, 105, 111, 110, 32, 116, 97, 107, 101, 115, 32, 97, 116, 32, 109, 111, 115, 116, 32, 37, 100]⟩, .slice (some ⟨B, 0, none⟩) 4 4] w fun e w' => ∃ a, e = .returned (.iface 110 (.pointer (some a))) ∧ KC nob w w' := by
  have hF' := answers_open hF
  go_enter Ybaf.func9, Ybaf.ntmps9
  go_wp2
  apply rows_value nextTurns
  case hr =>
    go_simp
    exact ⟨rfl, rfl⟩
  case h =>
    go_wp2
    go_ret
    exact ⟨_, rfl, ((KC.refl _ w).drew).alloc _⟩

set_option maxHeartbeats 800000 in
theorem errorf_arg (F : Interp) (B : Nat) (s s' : ByteArray) (a : Addr) (t : ByteArray) (w : World) (hF : F.answers w.tape) (hc : w.cell? ⟨B, 0, none⟩ = some (.iface 9 (.string s))) (hc1 : w.cell? ⟨B, 1, none⟩ = some (.iface 9 (.string s')))
    (hc2 : w.cell? ⟨B, 2, none⟩ = some (.iface 110 (.pointer (some a)))) (ht : w.cell? a = some (.string t)) :
    Calls Ybaf.prog 9 #[.string ⟨#[102, 117, 110, 99, 116, 105, 111, 110, 32, 37, 115, 46, 37, 115, 58, 32, 97, 114, 103, 115, 58, 32, 37, 119]⟩, .slice (some ⟨B, 0, none⟩) 3 3] w fun e w' => ∃ t a, e = .returned (.iface t (.pointer (some a))) ∧ KC nob w w' := by
  have hF' := answers_open hF
  have hop := fun name => op110 name a t w ht
  go_enter Ybaf.func9, Ybaf.ntmps9
  go_wp2
  apply rows_value nextTurns
  case hr =>
    go_simp
    exact ⟨rfl, rfl⟩
  case h =>
    go_wp2
    go_ret
    exact ⟨_, _, rfl, ((KC.refl _ w).drew).alloc _⟩

set_option maxHeartbeats 800000 in
theorem errorf_ret (F : Interp) (B : Nat) (s s' : ByteArray) (a : Addr) (t : ByteArray) (w : World) (hF : F.answers w.tape) (hc : w.cell? ⟨B, 0, none⟩ = some (.iface 9 (.string s))) (hc1 : w.cell? ⟨B, 1, none⟩ = some (.iface 9 (.string s')))
    (hc2 : w.cell? ⟨B, 2, none⟩ = some (.iface 110 (.pointer (some a)))) (ht : w.cell? a = some (.string t)) :
    Calls Ybaf.prog 9 #[.string ⟨#[102, 117, 110, 99, 116, 105, 111, 110, 32, 37, 115, 46, 37, 115, 58, 32, 114, 101, 116, 117, 114, 110, 115, 58, 32, 37, 119]⟩, .slice (some ⟨B, 0, none⟩) 3 3] w fun e w' => ∃ t a, e = .returned (.iface t (.pointer (some a))) ∧ KC nob w w' := by
  have hF' := answers_open hF
  have hop := fun name => op110 name a t w ht
  go_enter Ybaf.func9, Ybaf.ntmps9
  go_wp2
  apply rows_value nextTurns
  case hr =>
    go_simp
    exact ⟨rfl, rfl⟩
  case h =>
    go_wp2
    go_ret
    exact ⟨_, _, rfl, ((KC.refl _ w).drew).alloc _⟩

set_option maxHeartbeats 400000 in
theorem string7 (b o : Nat) (s : ByteArray) (w : World) (h4 : w.cell? ⟨b, o + 4, none⟩ = some (.string s)) :
    Calls Ybaf.prog 7 #[.pointer (some ⟨b, o, none⟩)] w fun e w' => e = .returned (.string s) ∧ w' = w := by
  go_enter Ybaf.func7, Ybaf.ntmps7
  go_wp2
  go_ret
  exact ⟨rfl, rfl⟩

set_option maxHeartbeats 800000 in
theorem errorf_twice (F : Interp) (B : Nat) (b o : Nat) (s : ByteArray) (w : World) (hF : F.answers w.tape) (hc : w.cell? ⟨B, 0, none⟩ = some (.iface 57 (.pointer (some ⟨b, o, none⟩)))) (h4 : w.cell? ⟨b, o + 4, none⟩ = some (.string s)) :
    Calls Ybaf.prog 9 #[.string ⟨#[102, 117, 110, 99, 116, 105, 111, 110, 32, 37, 115, 32, 105, 115, 32, 100, 101, 102, 105, 110, 101, 100, 32, 116, 119, 105, 99, 101]⟩, .slice (some ⟨B, 0, none⟩) 1 1] w fun e w' => ∃ t a, e = .returned (.iface t (.pointer (some a))) ∧ KC nob w w' := by
  have hF' := answers_open hF
  go_enter Ybaf.func9, Ybaf.ntmps9
  go_wp2
  apply rows_call nextTurns
  case hr =>
    go_simp
    exact ⟨⟨rfl, rfl, rfl⟩, rfl⟩
  case hi => exact invokeString57 _ _
  case hc =>
    refine (string7 b o s _ (by exact h4)).mono fun e w₃ ⟨he, hx⟩ => ?_
    subst he; subst w₃
    apply rows_value nextReturned
    case hr =>
      go_simp
      exact ⟨rfl, rfl⟩
    case h =>
      go_wp2
      go_ret
      exact ⟨⟨_, _, rfl⟩, ((KC.refl _ w).alloc _).drew⟩
end Go.Proofs.YbulkzmgFmt.Sc
