import Derived.Test.YbulkzmgFmtNewf
import Derived.ArgAppend
namespace Go.Proofs.YbulkzmgFmt.Sc
open Go.RowKit Go.Extern.Stop Go.Stop Go.Extern
set_option linter.unusedVariables false

/-- A list of n > 0 function pointers at (b, o), with room up to cap. -/
structure LV (w : World) (n : Nat) (f : Nat → Addr) (b o cap : Nat) : Prop where
  le : n ≤ cap
  cell : ∀ j, j < n → w.cell? ⟨b, o + j, none⟩ = some (.pointer (some (f j)))
  room : n < cap → o = 0 ∧ Sh w b 57 cap

theorem LV.kc {own : Nat → Nat → Prop} {w w' : World} {n : Nat} {f : Nat → Addr} {b o cap : Nat} (h : LV w n f b o cap) (k : KC own w w') (ho : ∀ j, j < n → ¬ own b (o + j)) : LV w' n f b o cap :=
  ⟨h.le, fun j hj => k.cell _ _ _ (ho j hj) (h.cell j hj), fun hr => ⟨(h.room hr).1, k.shape _ _ _ (h.room hr).2⟩⟩
theorem LV.ptrs {w : World} {n : Nat} {f : Nat → Addr} {b o cap : Nat} (h : LV w n f b o cap) : Ptrs w (some ⟨b, o, none⟩) n f := .inr ⟨b, o, rfl, h.cell⟩

def ext (f : Nat → Addr) (n : Nat) (p : Addr) : Nat → Addr := fun j => if j = n then p else f j

theorem info57' : (Ybaf.prog.info? 57).map (fun i => (i.zero, i.size, i.bytes)) = some (some (.pointer none), 1, 8) := by kernel_rfl

theorem setCells_one (w : World) (b o : Nat) (v : Value) : w.setCells b o [v] = w.setCell ⟨b, o, none⟩ v := rfl

/-- append(s.functions, p) -/
theorem append_list {w : World} {n : Nat} {f : Nat → Addr} {b o cap : Nat} (p : Addr) (h : LV w n f b o cap) (hn : 0 < n) (hn2 : n ≤ 256) (ty : TypeId) :
    ∃ w' b' o' cap', (Builtin.append_ #[45, 45] ty #[.slice (some ⟨b, o, none⟩) n cap, .slice (some ⟨w.heap.size, 0, none⟩) 1 1]).run Ybaf.prog (w.alloc (.cells #[.pointer (some p)] 57)) = .ok (.slice (some ⟨b', o', none⟩) (n + 1) cap') w' ∧
      LV w' (n + 1) (ext f n p) b' o' cap' ∧ KC (fun x y => x = b' ∧ y = o' + n) w w' ∧ ((b' = b ∧ o' = o ∧ n < cap) ∨ (w.heap.size ≤ b' ∧ b' < w'.heap.size ∧ o' = 0 ∧ Sh w' b' 57 cap')) := by
  obtain ⟨i, hi, hz, hs, hby⟩ := info_parts info57'
  have hK1 : KC nob w (w.alloc (.cells #[.pointer (some p)] 57)) := KC.alloc1 w _
  have h1 := h.kc hK1 (fun _ _ => id)
  have hnew : ∀ j u, [Value.pointer (some p)][j]? = some u → (w.alloc (.cells #[.pointer (some p)] 57)).cell? ((⟨w.heap.size, 0, none⟩ : Addr).add j) = some u := fun j u hu => by
    have hadd : (⟨w.heap.size, 0, none⟩ : Addr).add j = ⟨w.heap.size, j, none⟩ := by unfold Addr.add; split <;> simp_all
    rw [hadd, World.cell?_alloc_at _ _ _ _ rfl]
    simpa using hu
  by_cases hr : n < cap
  · obtain ⟨rfl, hsh⟩ := h1.room hr
    have hfr := hsh.frozen n
    obtain ⟨u, hu⟩ := hsh.some hr
    have hrun := run_append_room_cells (P := Ybaf.prog) (w.alloc (.cells #[.pointer (some p)] 57)) 45 ty 57 i Ybaf.underlying45 hi b 0 n cap ⟨w.heap.size, 0, none⟩ 1 1 [.pointer (some p)] (by rw [hs]; rfl) hnew (fun u hu => by simp at hu; subst hu; rfl) (by omega)
      (fun j hj => by
        have : j = 0 := by simpa using hj
        subst this
        rw [hs]; simp [hu])
      (fun j hj => by
        have : j = 0 := by simpa using hj
        subst this
        rw [hs]; simpa using hfr)
    rw [hs, setCells_one, Nat.mul_one, Nat.zero_add] at hrun
    refine ⟨_, b, 0, cap, hrun, ⟨by omega, fun j hj => ?_, fun hr' => ⟨rfl, hsh.setCell _ _⟩⟩, (hK1.any.trans (KC.set1 _ b n _ ⟨rfl, by omega⟩)), .inl ⟨rfl, rfl, hr⟩⟩
    by_cases hjn : j = n
    · subst hjn
      simp only [ext, if_true, Nat.zero_add]
      exact World.cell?_setCell_same _ _ _ hu
    · simp only [ext, if_neg hjn]
      rw [World.cell?_setCell_other _ _ _ _ (fun e => hjn (by cases e; omega))]
      exact h1.cell j (by omega)
  · have hcap : cap = n := by have := h.le; omega
    subst hcap
    obtain ⟨v', w', hrun, hown, hgr⟩ := run_append_arg_grows (P := Ybaf.prog) (w.alloc (.cells #[.pointer (some p)] 57)) 45 ty 57 i (.pointer none) 1 8 Ybaf.underlying45 hi hz hs hby rfl (by omega) ⟨b, o, none⟩ cap cap ((List.range cap).map fun j => .pointer (some (f j))) (by simp)
      (fun j u hu => by
        rw [List.getElem?_map] at hu
        obtain ⟨k, hk, rfl⟩ := Option.map_eq_some_iff.1 hu
        obtain ⟨hjn, hij⟩ := List.getElem?_eq_some_iff.1 hk
        simp only [List.length_range] at hjn
        simp only [List.getElem_range] at hij
        subst hij
        have hadd : (⟨b, o, none⟩ : Addr).add j = ⟨b, o + j, none⟩ := by unfold Addr.add; split <;> simp_all
        rw [hadd]
        exact h1.cell j hjn)
      ⟨w.heap.size, 0, none⟩ 1 1 [.pointer (some p)] rfl hnew (by omega) (by unfold maxLen; omega) (by omega)
    rcases hown.2 with ⟨_, h0⟩ | ⟨g, cap', cur, rfl, hg, hblk, hle, _, hsz, htk⟩
    · omega
    have hKg : KC nob (w.alloc (.cells #[.pointer (some p)] 57)) w' := KC.blocks hgr.os hgr.tape hgr.output hgr.size (fun k hk => hgr.block k hk (by simp))
    have hgw : w.heap.size ≤ g := by simp at hg; omega
    have hgl : g < w'.heap.size := (Array.getElem?_eq_some_iff.1 hblk).1
    have hsh : Sh w' g 57 cap' := ⟨cur, hblk, by omega⟩
    refine ⟨w', g, 0, cap', hrun, ⟨hle, fun j hj => ?_, fun _ => ⟨rfl, hsh⟩⟩, (hK1.trans hKg).any, .inr ⟨hgw, hgl, rfl, hsh⟩⟩
    rw [Nat.zero_add, cell_of_row w' g j cur 57 (0, 0) hblk]
    have e : (cur.toList.take ((cap + 1) * 1))[j]? = (((List.range cap).map fun j => Value.pointer (some (f j))) ++ [.pointer (some p)])[j]? := by rw [htk]
    rw [List.getElem?_take, if_pos (by omega), Array.getElem?_toList] at e
    rw [e]
    by_cases hjn : j = cap
    · subst hjn
      rw [List.getElem?_append_right (by simp)]
      simp [ext]
    · rw [List.getElem?_append_left (by simp; omega)]
      simp only [List.getElem?_map, ext, if_neg hjn]
      rw [List.getElem?_range (by omega)]
      rfl

theorem wpList_append5 {P : Program} {w w' : World} {ops : Array Oper} {rest : List Oper} {o : Oper} {a : Act} {Q : Exit → Act → World → Prop} (t t2 ty : TypeId) (hg : o.guard = none) (s x : Operand) (hop : o.op = Op.call { callee := Callee.builtin Builtin.append, args := #[s, x], argTypes := #[t, t2] }) (hty : o.type = ty)
    {u v r : Value} (hs : a.eval s = u) (hx : a.eval x = v) (hrun : (Builtin.append_ #[t, t2] ty #[u, v]).run P w = .ok r w') (hK : wpList P ops Q rest (a.put o.dst r) w') :
    wpList P ops Q (o :: rest) a w := by
  refine wpList_plain hg fun K hK' => ?_
  subst hty
  unfold Oper.wp execOp
  simp only [hop, resolve, invoke, builtin, Sem.run_bind, Sem.run_pure, Result.andThen_ok, List.map_toArray, List.map_cons, List.map_nil, hs, hx, hrun]
  exact hK' _ _ hK
end Go.Proofs.YbulkzmgFmt.Sc
