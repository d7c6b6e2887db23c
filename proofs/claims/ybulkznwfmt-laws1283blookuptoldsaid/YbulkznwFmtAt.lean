import Derived.Test.YbulkznwFmtTab
namespace Go.Proofs.YbulkznwFmt.Lk
open Go.RowKit Go.Extern.Stop Go.Stop Go.Extern
set_option linter.unusedVariables false

theorem wpList_copy4 {P : Program} {w w' : World} {ops : Array Oper} {rest : List Oper} {o : Oper} {a : Act} {Q : Exit → Act → World → Prop} (t t2 : TypeId) (hg : o.guard = none) (s x : Operand) (hop : o.op = Op.call { callee := Callee.builtin Builtin.copy, args := #[s, x], argTypes := #[t, t2] })
    {u v r : Value} (hs : a.eval s = u) (hx : a.eval x = v) (hrun : ∀ ty, (Builtin.copy_ #[t, t2] ty #[u, v]).run P w = .ok r w') (hK : wpList P ops Q rest (a.put o.dst r) w') :
    wpList P ops Q (o :: rest) a w := by
  refine wpList_plain hg fun K hK' => ?_
  unfold Oper.wp execOp
  simp only [hop, resolve, invoke, builtin, Sem.run_bind, Sem.run_pure, Result.andThen_ok, List.map_toArray, List.map_cons, List.map_nil, hs, hx, hrun]
  exact hK' _ _ hK
theorem wpList_append4 {P : Program} {w w' : World} {ops : Array Oper} {rest : List Oper} {o : Oper} {a : Act} {Q : Exit → Act → World → Prop} (t t2 : TypeId) (hg : o.guard = none) (s x : Operand) (hop : o.op = Op.call { callee := Callee.builtin Builtin.append, args := #[s, x], argTypes := #[t, t2] })
    {u v r : Value} (hs : a.eval s = u) (hx : a.eval x = v) (hrun : ∀ ty, (Builtin.append_ #[t, t2] ty #[u, v]).run P w = .ok r w') (hK : wpList P ops Q rest (a.put o.dst r) w') :
    wpList P ops Q (o :: rest) a w := by
  refine wpList_plain hg fun K hK' => ?_
  unfold Oper.wp execOp
  simp only [hop, resolve, invoke, builtin, Sem.run_bind, Sem.run_pure, Result.andThen_ok, List.map_toArray, List.map_cons, List.map_nil, hs, hx, hrun]
  exact hK' _ _ hK

/-- The cells of 'fields' ahead of the store of the value. -/
theorem fcell (h k : Nat) (hk : k < 17) : ([Value.int .u32 (h : Int), .int .i64 0, .int .i64 0, .int .i64 0, .int .i64 0, .int .i64 0, .int .i64 0, .int .i64 0, .int .i64 0, .int .i64 0, .int .i64 0, .int .i64 0, .int .i64 0, .int .i64 0, .int .i64 0, .int .i64 0, .int .i64 0, .int .i64 0] : List Value)[1 + k]? = some (.int .i64 0) := by
  have : k = 0 ∨ k = 1 ∨ k = 2 ∨ k = 3 ∨ k = 4 ∨ k = 5 ∨ k = 6 ∨ k = 7 ∨ k = 8 ∨ k = 9 ∨ k = 10 ∨ k = 11 ∨ k = 12 ∨ k = 13 ∨ k = 14 ∨ k = 15 ∨ k = 16 := by omega
  rcases this with rfl | rfl | rfl | rfl | rfl | rfl | rfl | rfl | rfl | rfl | rfl | rfl | rfl | rfl | rfl | rfl | rfl <;> rfl

/-- The world at the call of rdata. -/
def wAt (w2 : World) (h k : Nat) (idx : Int) (tab : Value) : World :=
  (w2.alloc (.cells (([Value.int .u32 (h : Int), .int .i64 0, .int .i64 0, .int .i64 0, .int .i64 0, .int .i64 0, .int .i64 0, .int .i64 0, .int .i64 0, .int .i64 0, .int .i64 0, .int .i64 0, .int .i64 0, .int .i64 0, .int .i64 0, .int .i64 0, .int .i64 0, .int .i64 0] : List Value).set (1 + k) (.int .i64 idx)).toArray 27)).alloc
    (.cells #[.int .u64 0, .int .u64 0, .int .u64 0, .slice none 0 0, .slice none 0 0, tab, .slice none 0 0, .slice none 0 0, .slice none 0 0, .slice none 0 0, .slice none 0 0, .slice none 0 0, .slice none 0 0, .slice none 0 0] 36)

theorem wAt_kept (own : Nat → Prop) (w2 : World) (h k : Nat) (idx : Int) (tab : Value) : Kept own w2 (wAt w2 h k idx tab) := ((Kept.refl own w2).alloc _).alloc _
theorem wAt_has (w2 : World) (h k : Nat) (idx : Int) (tab : Value) : (wAt w2 h k idx tab).cell? ⟨w2.heap.size, 0, none⟩ = some (.int .u32 h) := by
  have hb : (wAt w2 h k idx tab).heap[w2.heap.size]? = _ := (Deep.blk_alloc_lt _ _ _ (by simp)).trans (heap_alloc_new _ _)
  rw [cell_of_row _ _ _ _ _ _ hb]
  rw [show 1 + k = k + 1 from Nat.add_comm 1 k]
  rfl
theorem wAt_val (w2 : World) (h k : Nat) (hk : k < 17) (idx : Int) (tab : Value) : (wAt w2 h k idx tab).cell? ⟨w2.heap.size, 1 + k, none⟩ = some (.int .i64 idx) := by
  have hb : (wAt w2 h k idx tab).heap[w2.heap.size]? = _ := (Deep.blk_alloc_lt _ _ _ (by simp)).trans (heap_alloc_new _ _)
  rw [cell_of_row _ _ _ _ _ _ hb]
  simp [List.getElem?_set]
  omega
theorem cell_alloc2 (w : World) (o : Obj) (cs : Array Value) (t : TypeId) (j : Nat) : ((w.alloc o).alloc (.cells cs t)).cell? ⟨w.heap.size + 1, j, none⟩ = cs[j]? := by
  have h := cell_of_row ((w.alloc o).alloc (.cells cs t)) (w.alloc o).heap.size j cs t (0, 0) (heap_alloc_new _ _)
  have e : (w.alloc o).heap.size = w.heap.size + 1 := by simp
  rw [e] at h
  exact h
theorem wAt_tab (w2 : World) (h k : Nat) (idx : Int) (tab : Value) : (wAt w2 h k idx tab).cell? ⟨w2.heap.size + 1, 5, none⟩ = some tab := by
  unfold wAt
  rw [cell_alloc2]
  rfl
end Go.Proofs.YbulkznwFmt.Lk
