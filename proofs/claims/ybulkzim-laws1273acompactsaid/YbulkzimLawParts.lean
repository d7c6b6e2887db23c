import Derived.Test.YbulkzimCompact
namespace Go.Proofs.Ybulkzim.Comp
open Go.RowKit

theorem Yba.info25 : (Yba.prog.info? 25).map (fun i => (i.zero, i.size, i.bytes)) = some (some (.int .u64 0), 1, 8) := by kernel_rfl
theorem Yba.info4 : (Yba.prog.info? 4).map (fun i => (i.zero, i.size, i.bytes)) = some (some (.bool false), 1, 1) := by kernel_rfl
theorem Yba.info52 : (Yba.prog.info? 52).map (fun i => (i.zero, i.size, i.bytes)) = some (some (.agg zq5), 5, 40) := by kernel_rfl
theorem run_build43 (w : World) : (Instr.build 43 #[]).run Yba.prog w = .ok (.agg zscells.toArray) w := by kernel_rfl
theorem run_box43 (w : World) : (Instr.box 43 (.agg zscells.toArray)).run Yba.prog w = .ok (.pointer (some ⟨w.heap.size, 0, none⟩)) (w.alloc (.cells zscells.toArray 43)) := by kernel_rfl

/-- make(eventHeap, 0, n) -/
theorem run_make27 (n : Nat) (hn : n ≤ 1024) (w : World) : (Instr.makeSlice 27 (.int .i64 0) (.int .i64 n)).run Yba.prog w = .ok (.slice (some ⟨w.heap.size, 0, none⟩) 0 n) (w.alloc (.cells (madeCells zq5 (n * 5)) 52)) := by
  obtain ⟨i, hi, hi0, hi1, hi2⟩ := info_parts Yba.info52
  have := run_make (P := Yba.prog) w 27 52 i (.agg zq5) Yba.underlying27 hi hi0 .i64 .i64 0 n (by omega) (by omega) (by rw [hi2]; omega) (by omega)
  rw [hi1] at this
  simpa [Value.cells] using this

theorem due_made (w : World) (n : Nat) (A P : Nat → Int) : Due (w.alloc (.cells (madeCells zq5 (n * 5)) 52)) w.heap.size n A P [] := by
  refine ⟨Nat.zero_le _, fun i => (madeCells zq5 (n * 5)).getD i .nilFunc, ⟨_, heap_alloc_new _ _, size_madeCells _ _, fun i hi => ?_⟩, fun i hi => by simp at hi⟩
  have : i < (madeCells zq5 (n * 5)).size := by rw [size_madeCells]; exact hi
  simp [this]

/-- append(due, queued{..}) -/
theorem append_due (w : World) (g n k B m : Nat) (A P : Nat → Int) (V : List Nat) (hd : Due w g n A P V) (hm : V.length = m) (hl : m < n) (hB : w.heap[B]? = some (.cells (ev5 A P k) 52 (0, 0))) :
    ∃ w', (∀ ty : TypeId, (Builtin.append_ #[27, 27] ty #[.slice (some ⟨g, 0, none⟩) m n, .slice (some ⟨B, 0, none⟩) 1 1]).run Yba.prog w = .ok (.slice (some ⟨g, 0, none⟩) (m + 1) n) w') ∧ Due w' g n A P (V ++ [k]) ∧ Kept (fun k => k = g) w w' := by
  subst hm
  obtain ⟨h1, f, ⟨cs, hb, hs, hcs⟩, h2⟩ := hd
  obtain ⟨i, hi, hi0, hi1, hi2⟩ := info_parts Yba.info52
  have hlen : (ev5 A P k).toList.length = 5 := rfl
  have hr := fun ty : TypeId => run_append_room (P := Yba.prog) w 27 ty 52 i Yba.underlying27 hi g V.length n cs hb ⟨B, 0, none⟩ 1 1 (ev5 A P k).toList (by rw [hi1]; rfl)
    (fun j u hu => by
      have hadd : (⟨B, 0, none⟩ : Addr).add j = ⟨B, j, none⟩ := by unfold Addr.add; split <;> simp_all
      rw [hadd, cell_of_row w B j _ 52 (0, 0) hB]; simpa using hu)
    (fun u hu => by simp [ev5] at hu; rcases hu with rfl | rfl | rfl | rfl | rfl <;> rfl) (by omega) (by rw [hi1, hlen, hs]; omega)
  rw [hi1, hlen] at hr
  generalize hN : (cs.toList.take (V.length * 5) ++ (ev5 A P k).toList ++ cs.toList.drop (V.length * 5 + 5)).toArray = N at *
  have hNs : N.size = n * 5 := by
    rw [← hN]
    simp only [List.size_toArray, List.length_append, List.length_take, List.length_drop, Array.length_toList, hlen]
    omega
  have hNc : ∀ i, i < V.length * 5 → N[i]? = cs[i]? := by
    intro i hi
    rw [← hN]
    simp only [List.getElem?_toArray]
    rw [List.append_assoc, List.getElem?_append_left (by simp; omega), List.getElem?_take, if_pos (by omega)]
    simp
  have hNe : ∀ j, j < 5 → N[V.length * 5 + j]? = (ev5 A P k).toList[j]? := by
    intro j hj
    rw [← hN]
    simp only [List.getElem?_toArray]
    have e1 : (List.take (V.length * 5) cs.toList).length = V.length * 5 := by simp; omega
    rw [List.append_assoc, List.getElem?_append_right (by omega), e1, Nat.add_sub_cancel_left, List.getElem?_append_left (by rw [hlen]; exact hj)]
  refine ⟨w.setRow g N, hr, ?_, ⟨rfl, rfl, rfl, by simp [World.setRow], fun k hk ho => setRow_other w g k N ho⟩⟩
  have g0 := hNe 0 (by omega)
  have g1 := hNe 1 (by omega)
  have g2 := hNe 2 (by omega)
  have g3 := hNe 3 (by omega)
  have g4 := hNe 4 (by omega)
  simp [ev5] at g0 g1 g2 g3 g4
  refine ⟨by simp; omega, fun i => if i < V.length * 5 then f i else N.getD i .nilFunc, ⟨N, setRow_heap w g cs N 52 (0, 0) hb, hNs, fun i hi => ?_⟩, fun i hi => ?_⟩
  · show _ = some (if i < V.length * 5 then f i else N.getD i .nilFunc)
    by_cases e : i < V.length * 5
    · rw [if_pos e, hNc i e, hcs i (by omega)]
    · rw [if_neg e]; simp [hNs, hi]
  · by_cases e : i < V.length
    · have ev := h2 i e
      have : (V ++ [k]).getD i 0 = V.getD i 0 := by simp [List.getD, List.getElem?_append_left e]
      rw [this]
      obtain ⟨e0, e1, e2, e3, e4⟩ := ev
      refine ⟨?_, ?_, ?_, ?_, ?_⟩ <;> (show (if _ then _ else _) = _) <;> rw [if_pos (by omega)] <;> assumption
    · have e' : i = V.length := by simp at hi; omega
      subst e'
      have : (V ++ [k]).getD V.length 0 = k := by simp [List.getD]
      rw [this]
      refine ⟨?_, ?_, ?_, ?_, ?_⟩ <;> (show (if _ then _ else _) = _) <;> rw [if_neg (by omega)] <;> simp [Array.getD_eq_getD_getElem?, g0, g1, g2, g3, g4]

section
variable {P : Program} {w w' : World} {ops : Array Oper} {rest : List Oper} {a : Act} {Q : Exit → Act → World → Prop} {dst : Option Tmp} {ty : TypeId} {pos : String} {after : Array Edge} {s x : Operand}
theorem wpList_append2 (t : TypeId) {u v r : Value} (hs : a.eval s = u) (hx : a.eval x = v) (hrun : (Builtin.append_ #[t, t] ty #[u, v]).run P w = .ok r w') (hK : wpList P ops Q rest (a.put dst r) w') :
    wpList P ops Q ({ dst := dst, op := Op.call { callee := Callee.builtin Builtin.append, args := #[s, x], argTypes := #[t, t] }, type := ty, pos := pos, after := after, guard := none } :: rest) a w := by
  refine wpList_plain rfl fun K hK' => ?_
  unfold Oper.wp execOp
  simp only [resolve, invoke, builtin, Sem.run_bind, Sem.run_pure, Result.andThen_ok, List.map_toArray, List.map_cons, List.map_nil, hs, hx, hrun]
  exact hK' _ _ hK
end
end Go.Proofs.Ybulkzim.Comp
