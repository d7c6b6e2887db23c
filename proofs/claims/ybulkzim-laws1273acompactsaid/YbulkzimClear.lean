import Derived.Test.YbulkzimInit
namespace Go.Proofs.Ybulkzim.Comp
open Go.RowKit

def zq5 : Array Value := #[.int .i64 0, .int .i64 0, .int .u64 0, .int .i64 0, .nilFunc]

/-- clear(h[c:]) over a row of events. -/
theorem clear_due (w : World) (g n c : Nat) (A P : Nat → Int) (V : List Nat) (hd : Due w g n A P V) (hc : c < n) :
    ∃ w', (∀ (ty : TypeId) (cap : Nat), (Builtin.clear_ #[27] ty #[.slice (some ⟨g, c * 5, none⟩) (n - c) cap]).run Yba.prog w = .ok (.tuple #[]) w') ∧ Due w' g n A P (V.take c) ∧ Kept (fun k => k = g) w w' := by
  obtain ⟨h1, f, ⟨cs, hb, hs, hcs⟩, h2⟩ := hd
  have hz : (Builtin.zeroCells zq5 (n - c)).toList.length = (n - c) * 5 := by simp [Builtin.zeroCells, zq5]
  have hone : ∀ v ∈ (Builtin.zeroCells zq5 (n - c)).toList, v.oneCell' = true := by
    intro v hv
    simp only [Builtin.zeroCells, Array.toList_map, List.mem_map] at hv
    obtain ⟨j, _, rfl⟩ := hv
    have : j % zq5.size < 5 := Nat.mod_lt _ (by decide)
    generalize j % zq5.size = k at *
    match k, this with
    | 0, _ => rfl
    | 1, _ => rfl
    | 2, _ => rfl
    | 3, _ => rfl
    | 4, _ => rfl
  have hr := run_storeCells_at Yba.prog g (c * 5) 52 (Builtin.zeroCells zq5 (n - c)).toList 0 cs w hb (by rw [hz, hs]; omega) hone
  rw [hz] at hr
  generalize hN : (cs.toList.take (c * 5 + 0) ++ (Builtin.zeroCells zq5 (n - c)).toList ++ cs.toList.drop (c * 5 + 0 + (n - c) * 5)).toArray = N at *
  have hNs : N.size = n * 5 := by
    rw [← hN]
    simp only [List.size_toArray, List.length_append, List.length_take, List.length_drop, Array.length_toList, hz]
    omega
  have hNc : ∀ i, i < c * 5 → N[i]? = cs[i]? := by
    intro i hi
    rw [← hN]
    simp only [List.getElem?_toArray]
    rw [List.append_assoc, List.getElem?_append_left (by simp; omega), List.getElem?_take, if_pos (by omega)]
    simp
  refine ⟨w.setRow g N, ?_, ?_, ?_⟩
  · intro ty cap
    cases hm : n - c with
    | zero => omega
    | succ m =>
      rw [hm] at hr
      unfold zq5 at hr
      simp [Builtin.clear_, run_underlying Yba.underlying27, Value.cells, hr]
  · refine ⟨by simp; omega, fun i => if i < c * 5 then f i else N.getD i .nilFunc, ⟨N, setRow_heap w g cs N 52 (0, 0) hb, hNs, fun i hi => ?_⟩, fun i hi => ?_⟩
    · show _ = some (if i < c * 5 then f i else N.getD i .nilFunc)
      by_cases e : i < c * 5
      · rw [if_pos e, hNc i e, hcs i (by omega)]
      · rw [if_neg e]; simp [hNs, hi]
    · have hi' : i < c ∧ i < V.length := by simp at hi; omega
      have ev := h2 i hi'.2
      have : (V.take c).getD i 0 = V.getD i 0 := by simp [List.getD, hi'.1]
      rw [this]
      obtain ⟨e0, e1, e2, e3, e4⟩ := ev
      refine ⟨?_, ?_, ?_, ?_, ?_⟩ <;> (show (if _ then _ else _) = _) <;> rw [if_pos (by omega)] <;> assumption
  · exact ⟨rfl, rfl, rfl, by simp [World.setRow], fun k hk ho => setRow_other w g k N ho⟩

section
variable {P : Program} {w w' : World} {ops : Array Oper} {rest : List Oper} {a : Act} {Q : Exit → Act → World → Prop} {dst : Option Tmp} {ty : TypeId} {pos : String} {after : Array Edge} {x : Operand} {t : TypeId}
theorem wpList_clear {u v : Value} (hx : a.eval x = u) (hrun : (Builtin.clear_ #[t] ty #[u]).run P w = .ok v w') (hK : wpList P ops Q rest (a.put dst v) w') :
    wpList P ops Q ({ dst := dst, op := Op.call { callee := Callee.builtin Builtin.clear, args := #[x], argTypes := #[t] }, type := ty, pos := pos, after := after, guard := none } :: rest) a w := by
  refine wpList_plain rfl fun K hK' => ?_
  unfold Oper.wp execOp
  simp only [resolve, invoke, builtin, Sem.run_bind, Sem.run_pure, Result.andThen_ok, List.map_toArray, List.map_cons, List.map_nil, hx, hrun]
  exact hK' _ _ hK
end
end Go.Proofs.Ybulkzim.Comp
