import Derived.Test.YbulkznwFmtRdata
import Derived.Laws.CopyRow
import Derived.Laws.IdiomCopy
namespace Go.Proofs.YbulkznwFmt.Lk
open Go.RowKit Go.Extern.Stop Go.Stop Go.Extern
set_option linter.unusedVariables false

theorem info24 : (Ybaf.prog.info? 24).map (fun i => (i.zero, i.size, i.bytes)) = some (some (.slice none 0 0), 1, 24) := by kernel_rfl
theorem info5 : (Ybaf.prog.info? 5).map (fun i => (i.zero, i.size, i.bytes)) = some (some (.int .u8 0), 1, 1) := by kernel_rfl
theorem info_parts {P : Program} {e : TypeId} {z : Value} {sz by' : Nat} (h : (P.info? e).map (fun i => (i.zero, i.size, i.bytes)) = some (some z, sz, by')) : ∃ i, P.info? e = some i ∧ i.zero = some z ∧ i.size = sz ∧ i.bytes = by' := by
  obtain ⟨i, hi, hz⟩ := Option.map_eq_some_iff.1 h
  simp only [Prod.mk.injEq] at hz
  exact ⟨i, hi, hz.1, hz.2.1, hz.2.2⟩

/-- Block g is a row of C slice values that begins with L. -/
def Tab (w : World) (g C : Nat) (L : List Value) : Prop := ∃ cs : Array Value, w.heap[g]? = some (.cells cs 24 (0, 0)) ∧ cs.size = C ∧ L.length ≤ C ∧ cs.toList.take L.length = L

theorem Tab.kept {own : Nat → Prop} {w w' : World} {g C : Nat} {L : List Value} (h : Tab w g C L) (k : Kept own w w') (ho : ¬ own g) : Tab w' g C L := by
  obtain ⟨cs, hb, r⟩ := h
  obtain ⟨hlt, _⟩ := Array.getElem?_eq_some_iff.1 hb
  exact ⟨cs, (k.block g hlt ho).trans hb, r⟩
theorem Tab.cell {w : World} {g C i : Nat} {L : List Value} {v : Value} (h : Tab w g C L) (hi : L[i]? = some v) : w.cell? ⟨g, i, none⟩ = some v := by
  obtain ⟨cs, hb, hs, hl, ht⟩ := h
  have hi' : i < L.length := (List.getElem?_eq_some_iff.1 hi).1
  rw [cell_of_row w g i _ 24 (0, 0) hb]
  have e : (cs.toList.take L.length)[i]? = L[i]? := by rw [ht]
  rw [List.getElem?_take, if_pos hi', Array.getElem?_toList] at e
  rw [e, hi]

theorem run_make22 (n : Nat) (hn : n ≤ 100000) (w : World) : (Instr.makeSlice 22 (.int .i64 n) (.int .i64 ((n : Int) + 1))).run Ybaf.prog w = .ok (.slice (some ⟨w.heap.size, 0, none⟩) n (n + 1)) (w.alloc (.cells (madeCells #[.slice none 0 0] (n + 1)) 24)) := by
  obtain ⟨i, hi, hi0, hi1, hi2⟩ := info_parts info24
  have := run_make (P := Ybaf.prog) w 22 24 i (.slice none 0 0) Ybaf.underlying22 hi hi0 .i64 .i64 n ((n : Int) + 1) (by omega) (by omega) (by rw [hi2]; omega) (by omega)
  rw [hi1] at this
  have e : ((n : Int) + 1).toNat = n + 1 := by omega
  simpa [Value.cells, e] using this

theorem tab_made (w : World) (C : Nat) : Tab (w.alloc (.cells (madeCells #[.slice none 0 0] C) 24)) w.heap.size C [] :=
  ⟨_, heap_alloc_new _ _, size_madeCells _ _, Nat.zero_le _, by simp⟩

theorem tab_step {w : World} {g C : Nat} {l news : List Value} (cs : Array Value) (hb : w.heap[g]? = some (.cells cs 24 (0, 0))) (hs : cs.size = C) (ht : cs.toList.take l.length = l) (hfit : l.length + news.length ≤ C) :
    Tab (w.setRow g (cs.toList.take l.length ++ news ++ cs.toList.drop (l.length + news.length)).toArray) g C (l ++ news) := by
  refine ⟨_, setRow_heap w g cs _ 24 (0, 0) hb, ?_, by simp; omega, ?_⟩
  · simp only [List.size_toArray, List.length_append, List.length_take, List.length_drop, Array.length_toList]
    omega
  · rw [ht]
    exact List.take_left

/-- copy(tab, table) -/
theorem copy_tab (w : World) (g n tcap : Nat) (ta : Addr) (L : List Value) (hL : L.length = n) (h : Tab w g (n + 1) []) (hsrc : ∀ j v, L[j]? = some v → w.cell? (ta.add j) = some v) (h1 : ∀ v ∈ L, v.oneCell' = true) :
    ∃ w', (∀ ty, (Builtin.copy_ #[22, 22] ty #[.slice (some ⟨g, 0, none⟩) n (n + 1), .slice (some ta) n tcap]).run Ybaf.prog w = .ok (goInt n) w') ∧ Tab w' g (n + 1) L ∧ Kept (fun b => b = g) w w' := by
  subst hL
  obtain ⟨cs, hb, hs, hl, ht⟩ := h
  have hr := fun ty => run_copy_row (P := Ybaf.prog) w 22 22 ty 24 g 0 L.length (L.length + 1) ta L.length tcap cs 24 L Ybaf.underlying22 (by kernel_rfl) hb (by simp) hsrc (by omega) h1
  have := tab_step (w := w) (g := g) (C := L.length + 1) (l := []) (news := L) cs hb hs rfl (by simp)
  simp only [List.length_nil, Nat.zero_add, List.nil_append] at this hr
  exact ⟨_, hr, this, ⟨rfl, rfl, rfl, by simp [World.setRow], fun k hk ho => setRow_other w g k _ ho⟩⟩

/-- append(tab, entry) within the room -/
theorem append_tab (w : World) (g n B : Nat) (v : Value) (L : List Value) (hL : L.length = n) (h : Tab w g (n + 1) L) (hv : v.oneCell' = true) (hB : w.heap[B]? = some (.cells #[v] 24 (0, 0))) :
    ∃ w', (∀ ty, (Builtin.append_ #[22, 22] ty #[.slice (some ⟨g, 0, none⟩) n (n + 1), .slice (some ⟨B, 0, none⟩) 1 1]).run Ybaf.prog w = .ok (.slice (some ⟨g, 0, none⟩) (n + 1) (n + 1)) w') ∧ Tab w' g (n + 1) (L ++ [v]) ∧ Kept (fun b => b = g) w w' := by
  subst hL
  obtain ⟨cs, hb, hs, hl, ht⟩ := h
  obtain ⟨i, hi, hi0, hi1, hi2⟩ := info_parts info24
  have hr := fun ty => run_append_room (P := Ybaf.prog) w 22 ty 24 i Ybaf.underlying22 hi g L.length (L.length + 1) cs hb ⟨B, 0, none⟩ 1 1 [v] (by rw [hi1]; rfl)
    (fun j u hu => by
      have hadd : (⟨B, 0, none⟩ : Addr).add j = ⟨B, j, none⟩ := by unfold Addr.add; split <;> simp_all
      rw [hadd, cell_of_row w B j _ 24 (0, 0) hB]; simpa using hu)
    (fun u hu => by simp at hu; rw [hu]; exact hv) (by omega) (by rw [hi1, hs, Nat.mul_one]; simp)
  rw [hi1, Nat.mul_one] at hr
  exact ⟨_, hr, tab_step cs hb hs ht (by simp), ⟨rfl, rfl, rfl, by simp [World.setRow], fun k hk ho => setRow_other w g k _ ho⟩⟩
end Go.Proofs.YbulkznwFmt.Lk
