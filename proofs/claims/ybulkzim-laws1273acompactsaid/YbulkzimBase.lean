import Derived.Test.YbulkzimRuns
namespace Go.Proofs.Ybulkzim
open Go.RowKit

/-- An operation that yields a value, by the equation of its run. -/
theorem wpList_value {P : Program} {w w' : World} {ops : Array Oper} {rest : List Oper} {o : Oper} {a : Act} {Q : Exit → Act → World → Prop} (hg : o.guard = none) (s : Sem Value) (v : Value)
    (he : execOp a.eval o = (do pure (Next.value (← s)))) (hrun : s.run P w = .ok v w') (hK : wpList P ops Q rest (a.put o.dst v) w') : wpList P ops Q (o :: rest) a w := by
  refine wpList_plain hg fun K hK' => ?_
  unfold Oper.wp
  simp only [he, Sem.run_bind, hrun, Result.andThen_ok, Sem.run_pure]
  exact hK' _ _ hK

section
variable {P : Program} {w w' : World} {ops : Array Oper} {rest : List Oper} {a : Act} {Q : Exit → Act → World → Prop} {dst : Option Tmp} {ty : TypeId} {pos : String} {after : Array Edge}
theorem wpList_build0 (t : TypeId) {v : Value} (hrun : (Instr.build t #[]).run P w = .ok v w') (hK : wpList P ops Q rest (a.put dst v) w') :
    wpList P ops Q ({ dst := dst, op := Op.build t #[], type := ty, pos := pos, after := after, guard := none } :: rest) a w :=
  wpList_value rfl (Instr.build t #[]) v (by simp [execOp]) hrun hK
theorem wpList_buildSlice1 (t : TypeId) {x : Operand} {u v : Value} (hx : a.eval x = u) (hrun : (Instr.buildSlice t 1 #[(0, u)]).run P w = .ok v w') (hK : wpList P ops Q rest (a.put dst v) w') :
    wpList P ops Q ({ dst := dst, op := Op.buildSlice t 1 #[(0, x)], type := ty, pos := pos, after := after, guard := none } :: rest) a w :=
  wpList_value rfl (Instr.buildSlice t 1 #[(0, u)]) v (by simp [execOp, hx]) hrun hK
theorem wpList_box (t : TypeId) {x : Operand} {u v : Value} (hx : a.eval x = u) (hrun : (Instr.box t u).run P w = .ok v w') (hK : wpList P ops Q rest (a.put dst v) w') :
    wpList P ops Q ({ dst := dst, op := Op.box t x, type := ty, pos := pos, after := after, guard := none } :: rest) a w :=
  wpList_value rfl (Instr.box t u) v (by simp [execOp, hx]) hrun hK
end

theorem zcells_length : zcells.length = 320 := by decide +kernel
theorem zcells_one : ∀ u ∈ zcells, u.oneCell' = true := by
  have h : zcells.all (fun u => u.oneCell') = true := by decide +kernel
  exact List.all_eq_true.1 h

/-- What of the queue behind the pointer at block b is looked at: the chunks, the links, the head of the free list. -/
def Qb (w : World) (b : Nat) (cv lv : Value) (f : Int) : Prop :=
  ∃ cs, w.heap[b]? = some (.cells cs 34 (0, 0)) ∧ cs.size = 197 ∧ cs[193]? = some cv ∧ cs[194]? = some lv ∧ cs[195]? = some (.int .i64 f)

theorem Qb.lt {w : World} {b : Nat} {cv lv : Value} {f : Int} (h : Qb w b cv lv f) : b < w.heap.size := by
  obtain ⟨cs, h, _⟩ := h; exact (Array.getElem?_eq_some_iff.1 h).1
theorem Qb.c5 {w : World} {b : Nat} {cv lv : Value} {f : Int} (h : Qb w b cv lv f) : w.cell? ⟨b, 193, none⟩ = some cv := by
  obtain ⟨cs, h, hs, h5, h6, h7⟩ := h; simp [World.cell?, h, h5]
theorem Qb.c6 {w : World} {b : Nat} {cv lv : Value} {f : Int} (h : Qb w b cv lv f) : w.cell? ⟨b, 194, none⟩ = some lv := by
  obtain ⟨cs, h, hs, h5, h6, h7⟩ := h; simp [World.cell?, h, h6]
theorem Qb.c7 {w : World} {b : Nat} {cv lv : Value} {f : Int} (h : Qb w b cv lv f) : w.cell? ⟨b, 195, none⟩ = some (.int .i64 f) := by
  obtain ⟨cs, h, hs, h5, h6, h7⟩ := h; simp [World.cell?, h, h7]
theorem Qb.fr {w : World} {b : Nat} {cv lv : Value} {f : Int} (h : Qb w b cv lv f) (o : Nat) : w.frozen? ⟨b, o, none⟩ = false := by
  obtain ⟨cs, h, hs, h5, h6, h7⟩ := h; simp [World.frozen?, h]

theorem heap_setCell_at (w : World) (b o : Nat) (cs : Array Value) (e : TypeId) (u : Value) (h : w.heap[b]? = some (.cells cs e (0, 0))) :
    (w.setCell ⟨b, o, none⟩ u).heap[b]? = some (.cells (cs.setIfInBounds o u) e (0, 0)) := by
  simp [World.setCell, Array.getElem?_modify, h]

theorem Qb.set5 {w : World} {b : Nat} {cv lv : Value} {f : Int} (h : Qb w b cv lv f) (u : Value) : Qb (w.setCell ⟨b, 193, none⟩ u) b u lv f := by
  obtain ⟨cs, h, hs, h5, h6, h7⟩ := h
  exact ⟨_, heap_setCell_at w b 193 cs 34 u h, by simpa using hs, by simp [hs], by simpa [Array.getElem?_setIfInBounds] using h6, by simpa [Array.getElem?_setIfInBounds] using h7⟩
theorem Qb.set6 {w : World} {b : Nat} {cv lv : Value} {f : Int} (h : Qb w b cv lv f) (u : Value) : Qb (w.setCell ⟨b, 194, none⟩ u) b cv u f := by
  obtain ⟨cs, h, hs, h5, h6, h7⟩ := h
  exact ⟨_, heap_setCell_at w b 194 cs 34 u h, by simpa using hs, by simpa [Array.getElem?_setIfInBounds] using h5, by simp [hs], by simpa [Array.getElem?_setIfInBounds] using h7⟩
theorem Qb.set7 {w : World} {b : Nat} {cv lv : Value} {f : Int} (h : Qb w b cv lv f) (g : Int) : Qb (w.setCell ⟨b, 195, none⟩ (.int .i64 g)) b cv lv g := by
  obtain ⟨cs, h, hs, h5, h6, h7⟩ := h
  exact ⟨_, heap_setCell_at w b 195 cs 34 _ h, by simpa using hs, by simpa [Array.getElem?_setIfInBounds] using h5, by simpa [Array.getElem?_setIfInBounds] using h6, by simp [hs]⟩
theorem Qb.of {w w' : World} {b : Nat} {cv lv : Value} {f : Int} (h : Qb w b cv lv f) (e : w'.heap[b]? = w.heap[b]?) : Qb w' b cv lv f := by
  obtain ⟨cs, h, hr⟩ := h; exact ⟨cs, e.trans h, hr⟩
theorem Qb.alloc {w : World} {b : Nat} {cv lv : Value} {f : Int} (h : Qb w b cv lv f) (o : Obj) : Qb (w.alloc o) b cv lv f :=
  h.of (Below.heap_alloc w o b h.lt)
theorem Qb.kept {w w' : World} {b : Nat} {cv lv : Value} {f : Int} {row : Option Nat} (h : Qb w b cv lv f) (g : w.grownBy w' row) (hne : some b ≠ row) : Qb w' b cv lv f :=
  h.of (g.block b h.lt hne)
theorem Qb.setOther {w : World} {b : Nat} {cv lv : Value} {f : Int} (h : Qb w b cv lv f) (a : Addr) (u : Value) (hne : b ≠ a.block) : Qb (w.setCell a u) b cv lv f :=
  h.of (Below.heap_setCell w a u b hne)
theorem Qb.new (w : World) : Qb (w.alloc (.cells zqcells.toArray 34)) w.heap.size (.slice none 0 0) (.slice none 0 0) 0 :=
  ⟨_, heap_alloc_new w _, by decide +kernel, by kernel_rfl, by kernel_rfl, by kernel_rfl⟩
end Go.Proofs.Ybulkzim
