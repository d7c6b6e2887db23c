import Derived.Test.YbulkzkcDoorModel
import Derived.Test.YbulkzkcDoorEnc
import Derived.Lib.AppendStr
namespace Go.Proofs.YbulkzkcDoor.Rd
open Go.RowKit

theorem Ybad.info5 : (Ybad.prog.info? 5).map (fun i => (i.zero, i.size, i.bytes)) = some (some (.int .u8 0), 1, 1) := by kernel_rfl

theorem info_parts {P : Program} {e : TypeId} {z : Value} {sz by' : Nat} (h : (P.info? e).map (fun i => (i.zero, i.size, i.bytes)) = some (some z, sz, by')) : ∃ i, P.info? e = some i ∧ i.zero = some z ∧ i.size = sz ∧ i.bytes = by' := by
  obtain ⟨i, hi, hz⟩ := Option.map_eq_some_iff.1 h
  simp only [Prod.mk.injEq] at hz
  exact ⟨i, hi, hz.1, hz.2.1, hz.2.2⟩

/-- Bytes as cells. -/
def cellsOf (l : List Nat) : List Value := l.map fun n : Nat => Value.int .u8 (n : Int)
theorem cellsOf_len (l : List Nat) : (cellsOf l).length = l.length := by simp [cellsOf]
theorem cellsOf_one (l : List Nat) : ∀ u ∈ cellsOf l, u.oneCell' = true := by
  intro u hu
  simp only [cellsOf, List.mem_map] at hu
  obtain ⟨b, _, rfl⟩ := hu
  rfl
theorem strCells_nums (s : ByteArray) : Lib.strCells s = cellsOf (nums s) := by simp [Lib.strCells, cellsOf, nums]

/-- A row of C bytes in block g that begins with l. -/
def Buf (w : World) (g C : Nat) (l : List Nat) : Prop := ∃ cs : Array Value, w.heap[g]? = some (.cells cs 5 (0, 0)) ∧ cs.size = C ∧ l.length ≤ C ∧ cs.toList.take l.length = cellsOf l

theorem Buf.kept {own : Nat → Prop} {w w' : World} {g C : Nat} {l : List Nat} (h : Buf w g C l) (k : Kept own w w') (ho : ¬ own g) : Buf w' g C l := by
  obtain ⟨cs, hb, r⟩ := h
  obtain ⟨hlt, _⟩ := Array.getElem?_eq_some_iff.1 hb
  exact ⟨cs, (k.block g hlt ho).trans hb, r⟩
theorem Buf.lt {w : World} {g C : Nat} {l : List Nat} (h : Buf w g C l) : g < w.heap.size := by
  obtain ⟨cs, hb, r⟩ := h
  obtain ⟨hlt, _⟩ := Array.getElem?_eq_some_iff.1 hb
  exact hlt

theorem buf_step {w : World} {g C : Nat} {l news : List Nat} (cs : Array Value) (hb : w.heap[g]? = some (.cells cs 5 (0, 0))) (hs : cs.size = C) (ht : cs.toList.take l.length = cellsOf l) (hfit : l.length + news.length ≤ C) :
    Buf (w.setRow g (cs.toList.take l.length ++ cellsOf news ++ cs.toList.drop (l.length + news.length)).toArray) g C (l ++ news) := by
  refine ⟨_, setRow_heap w g cs _ 5 (0, 0) hb, ?_, by simp; omega, ?_⟩
  · simp only [List.size_toArray, List.length_append, List.length_take, List.length_drop, Array.length_toList, cellsOf_len]
    omega
  · rw [ht]
    have e : cellsOf l ++ cellsOf news = cellsOf (l ++ news) := by simp [cellsOf]
    rw [e]
    have : (l ++ news).length = (cellsOf (l ++ news)).length := (cellsOf_len _).symm
    rw [this]
    exact List.take_left

theorem append_buf (w : World) (g C B m q : Nat) (l news : List Nat) (h : Buf w g C l) (hm : l.length = m) (hq : news.length = q) (hfit : m + q ≤ C) (hB : w.heap[B]? = some (.cells (cellsOf news).toArray 5 (0, 0))) :
    ∃ w', (∀ ty : TypeId, (Builtin.append_ #[30, 30] ty #[.slice (some ⟨g, 0, none⟩) m C, .slice (some ⟨B, 0, none⟩) q q]).run Ybad.prog w = .ok (.slice (some ⟨g, 0, none⟩) (m + q) C) w') ∧ Buf w' g C (l ++ news) ∧ Kept (fun k => k = g) w w' := by
  subst hm hq
  obtain ⟨cs, hb, hs, hl, ht⟩ := h
  obtain ⟨i, hi, hi0, hi1, hi2⟩ := info_parts Ybad.info5
  have hr := fun ty : TypeId => run_append_room (P := Ybad.prog) w 30 ty 5 i Ybad.underlying30 hi g l.length C cs hb ⟨B, 0, none⟩ news.length news.length (cellsOf news) (by rw [hi1, cellsOf_len, Nat.mul_one])
    (fun j u hu => by
      have hadd : (⟨B, 0, none⟩ : Addr).add j = ⟨B, j, none⟩ := by unfold Addr.add; split <;> simp_all
      rw [hadd, cell_of_row w B j _ 5 (0, 0) hB]; simpa using hu)
    (cellsOf_one _) hfit (by rw [hi1, cellsOf_len, hs, Nat.mul_one]; exact hfit)
  rw [hi1, Nat.mul_one, cellsOf_len] at hr
  exact ⟨_, hr, buf_step cs hb hs ht hfit, ⟨rfl, rfl, rfl, by simp [World.setRow], fun k hk ho => setRow_other w g k _ ho⟩⟩

theorem append_str (w : World) (g C m q : Nat) (l : List Nat) (s : ByteArray) (h : Buf w g C l) (hm : l.length = m) (hq : s.size = q) (hfit : m + q ≤ C) :
    ∃ w', (∀ ty : TypeId, (Builtin.append_ #[30, 9] ty #[.slice (some ⟨g, 0, none⟩) m C, .string s]).run Ybad.prog w = .ok (.slice (some ⟨g, 0, none⟩) (m + q) C) w') ∧ Buf w' g C (l ++ nums s) ∧ Kept (fun k => k = g) w w' := by
  subst hm hq
  obtain ⟨cs, hb, hs, hl, ht⟩ := h
  obtain ⟨i, hi, hi0, hi1, hi2⟩ := info_parts Ybad.info5
  have hr := fun ty : TypeId => Lib.run_append_room_string (P := Ybad.prog) w 30 9 ty 5 i Ybad.underlying30 Ybad.underlying9 hi hi1 g l.length C cs hb s hfit (by rw [hs]; exact hfit)
  rw [strCells_nums] at hr
  have hb2 := buf_step (news := nums s) cs hb hs ht (by rw [nums_len]; exact hfit)
  rw [nums_len] at hb2
  exact ⟨_, hr, hb2, ⟨rfl, rfl, rfl, by simp [World.setRow], fun k hk ho => setRow_other w g k _ ho⟩⟩

/-- make([]byte, 0, C) -/
theorem run_make30 (C : Nat) (hn : C ≤ 100000) (w : World) : (Instr.makeSlice 30 (.int .i64 0) (.int .i64 C)).run Ybad.prog w = .ok (.slice (some ⟨w.heap.size, 0, none⟩) 0 C) (w.alloc (.cells (madeCells #[.int .u8 0] C) 5)) := by
  obtain ⟨i, hi, hi0, hi1, hi2⟩ := info_parts Ybad.info5
  have := run_make (P := Ybad.prog) w 30 5 i (.int .u8 0) Ybad.underlying30 hi hi0 .i64 .i64 0 C (by omega) (by omega) (by rw [hi2]; omega) (by omega)
  rw [hi1] at this
  simpa [Value.cells] using this

theorem buf_made (w : World) (C : Nat) : Buf (w.alloc (.cells (madeCells #[.int .u8 0] C) 5)) w.heap.size C [] :=
  ⟨_, heap_alloc_new _ _, size_madeCells _ _, Nat.zero_le _, by simp [cellsOf]⟩

/-- string(b) -/
theorem conv_back (w : World) (g C m : Nat) (l : List Nat) (hl : ∀ x ∈ l, x ≤ 255) (h : Buf w g C l) (hm : l.length = m) : ∃ s : ByteArray, nums s = l ∧ (convert 30 9 (.slice (some ⟨g, 0, none⟩) m C)).run Ybad.prog w = .ok (.string s) w := by
  subst hm
  obtain ⟨cs, hb, hs, hlen, ht⟩ := h
  refine ⟨⟨(l.map UInt8.ofNat).toArray⟩, ?_, ?_⟩
  · simp only [nums, List.map_map]
    conv => rhs; rw [← List.map_id l]
    apply List.map_congr_left
    intro x hx
    have := hl x hx
    simp [UInt8.toNat_ofNat']; omega
  · have := run_convert_bytes_back (P := Ybad.prog) w 30 9 5 ⟨g, 0, none⟩ C (l.map UInt8.ofNat) Ybad.underlying30 Ybad.underlying5 Ybad.underlying9 (fun j hj => by
      have hadd : (⟨g, 0, none⟩ : Addr).add j = ⟨g, j, none⟩ := by unfold Addr.add; split <;> simp_all
      have hj' : j < l.length := by simpa using hj
      rw [hadd, cell_of_row w g j _ 5 (0, 0) hb]
      have e : (cs.toList.take l.length)[j]? = (cellsOf l)[j]? := by rw [ht]
      rw [List.getElem?_take, if_pos hj', Array.getElem?_toList] at e
      rw [e]
      have hx := hl l[j] (List.getElem_mem hj')
      simp [cellsOf, List.getElem?_eq_getElem hj', UInt8.toNat_ofNat']
      omega)
    simpa using this

section
variable {P : Program} {w w' : World} {ops : Array Oper} {rest : List Oper} {a : Act} {Q : Exit → Act → World → Prop} {dst : Option Tmp} {ty : TypeId} {pos : String} {after : Array Edge} {s x : Operand}
theorem wpList_append3 (t t2 : TypeId) {u v r : Value} (hs : a.eval s = u) (hx : a.eval x = v) (hrun : (Builtin.append_ #[t, t2] ty #[u, v]).run P w = .ok r w') (hK : wpList P ops Q rest (a.put dst r) w') :
    wpList P ops Q ({ dst := dst, op := Op.call { callee := Callee.builtin Builtin.append, args := #[s, x], argTypes := #[t, t2] }, type := ty, pos := pos, after := after, guard := none } :: rest) a w := by
  refine wpList_plain rfl fun K hK' => ?_
  unfold Oper.wp execOp
  simp only [resolve, invoke, builtin, Sem.run_bind, Sem.run_pure, Result.andThen_ok, List.map_toArray, List.map_cons, List.map_nil, hs, hx, hrun]
  exact hK' _ _ hK
end
end Go.Proofs.YbulkzkcDoor.Rd
