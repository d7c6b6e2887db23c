import Derived.Test.YbulkzimBase
import Derived.Deep.AppendLies
namespace Go.Proofs.Ybulkzim
open Go.RowKit

/-- The queue behind the pointer at block b: N chunks, the links, the head of the free list. -/
structure QAt (w : World) (b : Nat) (cv lv : Value) (N : Nat) (ls : List Int) (f : Int) : Prop where
  qb : Qb w b cv lv f
  oc : ∃ xs, w.ownsRow (b + 1) 70 320 cv N xs
  ol : w.ownsRow (b + 1) 3 1 lv ls.length (ls.map (Value.int .i64))

/-- What a step on the queue lets stand: every old block but the queue's own three. -/
structure QStep (w w' : World) (b : Nat) (cv lv cv' lv' : Value) : Prop where
  os : w'.os = w.os
  tape : w'.tape = w.tape
  output : w'.output = w.output
  size : w.heap.size ≤ w'.heap.size
  block : ∀ k, k < w.heap.size → k ≠ b → some k ≠ cv.ownBlock → some k ≠ lv.ownBlock → w'.heap[k]? = w.heap[k]?
  cown : ∀ k, cv'.ownBlock = some k → cv.ownBlock = some k ∨ w.heap.size ≤ k
  lown : ∀ k, lv'.ownBlock = some k → lv.ownBlock = some k ∨ w.heap.size ≤ k

theorem ownsRow.sl {w : World} {base : Nat} {e : TypeId} {size : Nat} {v : Value} {n : Nat} {xs : List Value} (h : w.ownsRow base e size v n xs) : ∃ a c, v = .slice a n c := by
  rcases h.2 with ⟨rfl, rfl⟩ | ⟨g, cap, cur, rfl, _⟩
  · exact ⟨_, _, rfl⟩
  · exact ⟨_, _, rfl⟩

theorem ownsRow.blk {w : World} {base : Nat} {e : TypeId} {size : Nat} {v : Value} {n : Nat} {xs : List Value} (h : w.ownsRow base e size v n xs) {k : Nat} (hk : v.ownBlock = some k) : ∃ cur, w.heap[k]? = some (.cells cur e (0, 0)) := by
  rcases h.2 with ⟨rfl, _⟩ | ⟨g, cap, cur, rfl, _, hg, _⟩
  · cases hk
  · cases hk; exact ⟨_, hg⟩

theorem QAt.apart {w : World} {b : Nat} {cv lv : Value} {N : Nat} {ls : List Int} {f : Int} (q : QAt w b cv lv N ls f) {k : Nat} (hc : cv.ownBlock = some k) : lv.ownBlock ≠ some k := by
  intro hl
  obtain ⟨xs, oc⟩ := q.oc
  obtain ⟨c1, h1⟩ := ownsRow.blk oc hc
  obtain ⟨c2, h2⟩ := ownsRow.blk q.ol hl
  rw [h1] at h2; cases h2

theorem QAt.cge {w : World} {b : Nat} {cv lv : Value} {N : Nat} {ls : List Int} {f : Int} (q : QAt w b cv lv N ls f) {k : Nat} (hc : cv.ownBlock = some k) : b + 1 ≤ k ∧ k < w.heap.size := by
  obtain ⟨xs, oc⟩ := q.oc; exact oc.lt k hc
theorem QAt.lge {w : World} {b : Nat} {cv lv : Value} {N : Nat} {ls : List Int} {f : Int} (q : QAt w b cv lv N ls f) {k : Nat} (hc : lv.ownBlock = some k) : b + 1 ≤ k ∧ k < w.heap.size := q.ol.lt k hc

theorem QStep.refl (w : World) (b : Nat) (cv lv : Value) : QStep w w b cv lv cv lv := ⟨rfl, rfl, rfl, Nat.le_refl _, fun _ _ _ _ _ => rfl, fun _ h => .inl h, fun _ h => .inl h⟩

theorem QStep.trans {w w1 w2 : World} {b : Nat} {cv lv cv1 lv1 cv2 lv2 : Value} (h1 : QStep w w1 b cv lv cv1 lv1) (h2 : QStep w1 w2 b cv1 lv1 cv2 lv2) : QStep w w2 b cv lv cv2 lv2 := by
  refine ⟨h2.os.trans h1.os, h2.tape.trans h1.tape, h2.output.trans h1.output, Nat.le_trans h1.size h2.size, ?_, ?_, ?_⟩
  · intro k hk hb hc hl
    rw [h2.block k (Nat.lt_of_lt_of_le hk h1.size) hb ?_ ?_, h1.block k hk hb hc hl]
    · intro e; rcases h1.cown k e.symm with h | h
      · exact hc h.symm
      · omega
    · intro e; rcases h1.lown k e.symm with h | h
      · exact hl h.symm
      · omega
  · intro k hk
    rcases h2.cown k hk with h | h
    · exact h1.cown k h
    · have := h1.size; exact .inr (by omega)
  · intro k hk
    rcases h2.lown k hk with h | h
    · exact h1.lown k h
    · have := h1.size; exact .inr (by omega)

theorem QStep.below {w w' : World} {b B : Nat} {cv lv cv' lv' : Value} (h : QStep w w' b cv lv cv' lv') (hB : B ≤ b) (hbw : b < w.heap.size) (hc : ∀ k, cv.ownBlock = some k → B ≤ k) (hl : ∀ k, lv.ownBlock = some k → B ≤ k) : Below B w w' :=
  ⟨h.os, h.tape, h.output, h.size, fun k hk => h.block k (by omega) (by omega) (fun e => by have := hc k e.symm; omega) (fun e => by have := hl k e.symm; omega)⟩

/-- A row of another's is kept. -/
theorem QStep.row {w w' : World} {b : Nat} {cv lv cv' lv' : Value} (h : QStep w w' b cv lv cv' lv') {base : Nat} {e : TypeId} {size : Nat} {v : Value} {n : Nat} {xs : List Value} (ho : w.ownsRow base e size v n xs)
    (hb : v.ownBlock ≠ some b) (hc : ∀ k, v.ownBlock = some k → cv.ownBlock ≠ some k) (hl : ∀ k, v.ownBlock = some k → lv.ownBlock ≠ some k) : w'.ownsRow base e size v n xs := by
  refine ⟨ho.1, ?_⟩
  rcases ho.2 with hn | ⟨g, cap, cur, rfl, hbg, hgg, rest⟩
  · exact .inl hn
  · refine .inr ⟨g, cap, cur, rfl, hbg, ?_, rest⟩
    rw [h.block g (Array.getElem?_eq_some_iff.1 hgg).1 (fun e => hb (by simp [Value.ownBlock, e])) (fun e => hc g rfl e.symm) (fun e => hl g rfl e.symm)]
    exact hgg

/-- Behind q.chunks = append(q.chunks, ..). -/
theorem app_chunks {w w1 : World} {b : Nat} {cv lv : Value} {N N' g cap : Nat} {ls : List Int} {f : Int} {o : Obj} {xs' : List Value} (q : QAt w b cv lv N ls f)
    (oc1 : w1.ownsRow (b + 1) 70 320 (.slice (some ⟨g, 0, none⟩) N' cap) N' xs') (gr : (w.alloc o).grownBy w1 cv.ownBlock) (hat : cv.ownBlock = some g ∨ g = w.heap.size + 1) :
    Qb w1 b cv lv f ∧ QAt (w1.setCell ⟨b, 193, none⟩ (.slice (some ⟨g, 0, none⟩) N' cap)) b (.slice (some ⟨g, 0, none⟩) N' cap) lv N' ls f ∧
      QStep w (w1.setCell ⟨b, 193, none⟩ (.slice (some ⟨g, 0, none⟩) N' cap)) b cv lv (.slice (some ⟨g, 0, none⟩) N' cap) lv := by
  have hbc : ∀ k, cv.ownBlock = some k → k ≠ b := fun k hk => by have := (q.cge hk).1; omega
  have hq1 : Qb w1 b cv lv f := (q.qb.alloc o).kept gr (fun e => hbc b e.symm rfl)
  have ol1 := (q.ol.alloc o).kept gr (by
    cases h : lv.ownBlock with
    | none => exact .inl rfl
    | some k => exact .inr fun e => q.apart e.symm h)
  have hsz : w.heap.size + 1 ≤ w1.heap.size := by have := gr.size; simpa using this
  refine ⟨hq1, ⟨hq1.set5 _, ⟨_, ownsRow_setCell_below oc1 (by simp) _⟩, ownsRow_setCell_below ol1 (by simp) _⟩, gr.os, gr.tape, gr.output, by simp [World.setCell]; omega, ?_, ?_, fun k hk => .inl hk⟩
  · intro k hk hb hc hl
    rw [Below.heap_setCell _ _ _ _ hb, gr.block k (by simp; omega) hc, Below.heap_alloc _ _ _ hk]
  · intro k hk
    simp [Value.ownBlock] at hk
    subst hk
    rcases hat with h | h
    · exact .inl h
    · exact .inr (by omega)

/-- Behind q.links = append(q.links, ..). -/
theorem app_links {w w1 : World} {b : Nat} {cv lv : Value} {N g cap : Nat} {ls ls' : List Int} {f : Int} {o : Obj} (q : QAt w b cv lv N ls f)
    (ol1 : w1.ownsRow (b + 1) 3 1 (.slice (some ⟨g, 0, none⟩) ls'.length cap) ls'.length (ls'.map (Value.int .i64))) (gr : (w.alloc o).grownBy w1 lv.ownBlock) (hat : lv.ownBlock = some g ∨ g = w.heap.size + 1) :
    Qb w1 b cv lv f ∧ QAt (w1.setCell ⟨b, 194, none⟩ (.slice (some ⟨g, 0, none⟩) ls'.length cap)) b cv (.slice (some ⟨g, 0, none⟩) ls'.length cap) N ls' f ∧
      QStep w (w1.setCell ⟨b, 194, none⟩ (.slice (some ⟨g, 0, none⟩) ls'.length cap)) b cv lv cv (.slice (some ⟨g, 0, none⟩) ls'.length cap) := by
  have hbc : ∀ k, lv.ownBlock = some k → k ≠ b := fun k hk => by have := (q.lge hk).1; omega
  have hq1 : Qb w1 b cv lv f := (q.qb.alloc o).kept gr (fun e => hbc b e.symm rfl)
  obtain ⟨xs, oc⟩ := q.oc
  have oc1 := (oc.alloc o).kept gr (by
    cases h : cv.ownBlock with
    | none => exact .inl rfl
    | some k => exact .inr fun e => q.apart h e.symm)
  have hsz : w.heap.size + 1 ≤ w1.heap.size := by have := gr.size; simpa using this
  refine ⟨hq1, ⟨hq1.set6 _, ⟨_, ownsRow_setCell_below oc1 (by simp) _⟩, ownsRow_setCell_below ol1 (by simp) _⟩, gr.os, gr.tape, gr.output, by simp [World.setCell]; omega, ?_, fun k hk => .inl hk, ?_⟩
  · intro k hk hb hc hl
    rw [Below.heap_setCell _ _ _ _ hb, gr.block k (by simp; omega) hl, Below.heap_alloc _ _ _ hk]
  · intro k hk
    simp [Value.ownBlock] at hk
    subst hk
    rcases hat with h | h
    · exact .inl h
    · exact .inr (by omega)

/-- Behind q.chunks, q.links = make([]chunk, 1), make([]int, 1). -/
theorem first_made {w : World} {b : Nat} {cv lv : Value} {N : Nat} {ls : List Int} {f : Int} (q : QAt w b cv lv N ls f) (o1 o2 : Obj) (s1 s2 : Nat) (h1 : w.heap.size ≤ s1) (h2 : w.heap.size ≤ s2) (W : World)
    (hW : W = (((w.setCell ⟨b, 193, none⟩ (.slice (some ⟨s1, 0, none⟩) 1 1)).setCell ⟨b, 194, none⟩ (.slice (some ⟨s2, 0, none⟩) 1 1)).alloc o1).alloc o2)
    (e1 : W.heap[s1]? = some (.cells zcells.toArray 70 (0, 0))) (e2 : W.heap[s2]? = some (.cells #[.int .i64 0] 3 (0, 0))) :
    QAt W.drew b (.slice (some ⟨s1, 0, none⟩) 1 1) (.slice (some ⟨s2, 0, none⟩) 1 1) 1 [0] f ∧ QStep w W.drew b cv lv (.slice (some ⟨s1, 0, none⟩) 1 1) (.slice (some ⟨s2, 0, none⟩) 1 1) := by
  have hlt := q.qb.lt
  have hs : W.heap.size = w.heap.size + 2 := by rw [hW]; simp
  refine ⟨⟨?_, ⟨zcells, ?_⟩, ?_⟩, ?_⟩
  · show Qb W b _ _ _
    rw [hW]; exact (((q.qb.set5 _).set6 _).alloc _).alloc _
  · exact ⟨by simp [zcells_length], .inr ⟨s1, 1, zcells.toArray, rfl, by omega, e1, by omega, by unfold maxLen; omega, by simp [zcells_length], by simp; rw [List.take_of_length_le (by simp [zcells_length])]⟩⟩
  · exact ⟨by simp, .inr ⟨s2, 1, #[.int .i64 0], rfl, by omega, e2, by simp, by unfold maxLen; simp, by simp, by simp⟩⟩
  · refine ⟨by rw [hW]; rfl, by rw [hW]; rfl, by rw [hW]; rfl, by show _ ≤ W.heap.size; omega, ?_, ?_, ?_⟩
    · intro k hk hb _ _
      show W.heap[k]? = _
      rw [hW, Below.heap_alloc _ _ _ (by simp; omega), Below.heap_alloc _ _ _ (by simp; omega), Below.heap_setCell _ _ _ _ hb, Below.heap_setCell _ _ _ _ hb]
    · intro k hk; simp [Value.ownBlock] at hk; exact .inr (by omega)
    · intro k hk; simp [Value.ownBlock] at hk; exact .inr (by omega)

theorem QAt.setFree {w : World} {b : Nat} {cv lv : Value} {N : Nat} {ls : List Int} {f : Int} (q : QAt w b cv lv N ls f) (f' : Int) :
    QAt (w.setCell ⟨b, 195, none⟩ (.int .i64 f')) b cv lv N ls f' ∧ QStep w (w.setCell ⟨b, 195, none⟩ (.int .i64 f')) b cv lv cv lv := by
  obtain ⟨xs, oc⟩ := q.oc
  exact ⟨⟨q.qb.set7 f', ⟨xs, ownsRow_setCell_below oc (by simp) _⟩, ownsRow_setCell_below q.ol (by simp) _⟩, rfl, rfl, rfl, by simp [World.setCell],
    fun k _ hb _ _ => Below.heap_setCell _ _ _ _ hb, fun _ h => .inl h, fun _ h => .inl h⟩

theorem map_set_int (ls : List Int) (c : Nat) (v : Int) : (ls.map (Value.int .i64)).set c (.int .i64 v) = (ls.set c v).map (Value.int .i64) := by
  rw [List.map_set]

theorem QAt.setLink {w : World} {b h n cap : Nat} {cv : Value} {N : Nat} {ls : List Int} {f : Int} (q : QAt w b cv (.slice (some ⟨h, 0, none⟩) n cap) N ls f) (c : Nat) (v : Int) :
    QAt (w.setCell ⟨h, c, none⟩ (.int .i64 v)) b cv (.slice (some ⟨h, 0, none⟩) n cap) N (ls.set c v) f ∧
      QStep w (w.setCell ⟨h, c, none⟩ (.int .i64 v)) b cv (.slice (some ⟨h, 0, none⟩) n cap) cv (.slice (some ⟨h, 0, none⟩) n cap) := by
  obtain ⟨xs, oc⟩ := q.oc
  have ol := q.ol
  obtain ⟨a', c', e'⟩ := ownsRow.sl ol
  cases e'
  have hb := (q.lge (k := h) rfl).1
  refine ⟨⟨q.qb.setOther _ _ (by show b ≠ h; omega), ⟨xs, ownsRow_setCell_other oc (a := ⟨h, c, none⟩) (fun e => q.apart e rfl) _⟩, ?_⟩, rfl, rfl, rfl, by simp [World.setCell],
    fun k _ _ _ hl => Below.heap_setCell _ _ _ _ (fun e => hl (by simp [Value.ownBlock, e])), fun _ h => .inl h, fun _ h => .inl h⟩
  have := (ol.stored c (.int .i64 v)).1
  rw [map_set_int] at this
  simpa using this

theorem QAt.form {w : World} {b : Nat} {cv lv : Value} {N : Nat} {ls : List Int} {f : Int} (q : QAt w b cv lv N ls f) (h : 0 < ls.length) : ∃ g cap, lv = .slice (some ⟨g, 0, none⟩) ls.length cap := by
  obtain ⟨g, cap, h1, _⟩ := q.ol.form h; exact ⟨g, cap, h1⟩

theorem QAt.link {w : World} {b h n cap : Nat} {cv : Value} {N : Nat} {ls : List Int} {f : Int} (q : QAt w b cv (.slice (some ⟨h, 0, none⟩) n cap) N ls f) (c : Nat) (hc : c < ls.length) :
    w.cell? ⟨h, c, none⟩ = some (.int .i64 (ls.getD c 0)) := by
  have ol := q.ol
  obtain ⟨a', c', e'⟩ := ownsRow.sl ol
  cases e'
  rw [ol.cellAt c (by omega)]
  simp [List.getD, hc]

theorem QAt.linkFr {w : World} {b h n cap : Nat} {cv : Value} {N : Nat} {ls : List Int} {f : Int} (q : QAt w b cv (.slice (some ⟨h, 0, none⟩) n cap) N ls f) (c : Nat) :
    w.frozen? ⟨h, c, none⟩ = false := by
  have ol := q.ol
  obtain ⟨a', c', e'⟩ := ownsRow.sl ol
  cases e'
  exact ol.frozenAt c

theorem QAt.drew {w : World} {b : Nat} {cv lv : Value} {N : Nat} {ls : List Int} {f : Int} (q : QAt w b cv lv N ls f) : QAt w.drew b cv lv N ls f := ⟨q.qb, q.oc, q.ol⟩
theorem QStep.drew {w w' : World} {b : Nat} {cv lv cv' lv' : Value} (s : QStep w w' b cv lv cv' lv') : QStep w w'.drew b cv lv cv' lv' := ⟨s.os, s.tape, s.output, s.size, s.block, s.cown, s.lown⟩
end Go.Proofs.Ybulkzim
