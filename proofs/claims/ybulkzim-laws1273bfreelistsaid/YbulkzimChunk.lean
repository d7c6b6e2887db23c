import Derived.Test.YbulkzimQueue
import Derived.Deep.AppendLies
import Derived.Deep.DeepMust
import Derived.RegionTactic
import Derived.BigRegion
import Derived.Deep.DeepCutAuto
namespace Go.Proofs.Ybulkzim
open Go.RowKit

section
variable {w : World} {ops : Array Oper} {rest : List Oper} {a : Act} {Q : Exit → Act → World → Prop} {dst : Option Tmp} {ty : TypeId} {pos : String} {after : Array Edge} {s x : Operand}
/-- append(q.chunks, chunk{}) -/
theorem wpList_append31 (base N B : Nat) (v : Value) (xs : List Value) (oc : w.ownsRow base 70 320 v N xs) (hB : w.heap[B]? = some (.cells zcells.toArray 70 (0, 0))) (hN : N ≤ 4000) (hb : base ≤ w.heap.size) (H : Nat) (hH : w.heap.size = H)
    (hs : a.eval s = v) (hx : a.eval x = .slice (some ⟨B, 0, none⟩) 1 1)
    (h : ∀ g cap w', w'.ownsRow base 70 320 (.slice (some ⟨g, 0, none⟩) (N + 1) cap) (N + 1) (xs ++ zcells) → w.grownBy w' v.ownBlock → (v.ownBlock = some g ∨ g = H) → g < w'.heap.size → wpList Yba.prog ops Q rest (a.put dst (.slice (some ⟨g, 0, none⟩) (N + 1) cap)) w') :
    wpList Yba.prog ops Q ({ dst := dst, op := Op.call { callee := Callee.builtin Builtin.append, args := #[s, x], argTypes := #[31, 31] }, type := ty, pos := pos, after := after, guard := none } :: rest) a w := by
  obtain ⟨i, hi, hi0, hi1, hi2⟩ := info_parts Yba.info70
  exact wpList_append_lies w rfl s x 31 rfl base 70 i (.agg zcells.toArray) 320 2560 Yba.underlying31 hi hi0 hi1 hi2 (by simp [Value.cells, zcells_length]) (by omega) v N xs hs oc ⟨B, 0, none⟩ 1 1 zcells hx (by simp [zcells_length])
    (by simpa using World.news_of_block hB) zcells_one (by omega) (by unfold maxLen; omega) (by omega) hb H hH h
/-- append(q.links, 0) -/
theorem wpList_append32 (base N B : Nat) (v : Value) (xs : List Value) (u : Int) (oc : w.ownsRow base 3 1 v N xs) (hB : w.cell? ⟨B, 0, none⟩ = some (.int .i64 u)) (hN : N ≤ 4000) (hb : base ≤ w.heap.size) (H : Nat) (hH : w.heap.size = H)
    (hs : a.eval s = v) (hx : a.eval x = .slice (some ⟨B, 0, none⟩) 1 1)
    (h : ∀ g cap w', w'.ownsRow base 3 1 (.slice (some ⟨g, 0, none⟩) (N + 1) cap) (N + 1) (xs ++ [.int .i64 u]) → w.grownBy w' v.ownBlock → (v.ownBlock = some g ∨ g = H) → g < w'.heap.size → wpList Yba.prog ops Q rest (a.put dst (.slice (some ⟨g, 0, none⟩) (N + 1) cap)) w') :
    wpList Yba.prog ops Q ({ dst := dst, op := Op.call { callee := Callee.builtin Builtin.append, args := #[s, x], argTypes := #[32, 32] }, type := ty, pos := pos, after := after, guard := none } :: rest) a w := by
  obtain ⟨i, hi, hi0, hi1, hi2⟩ := info_parts Yba.info3
  exact wpList_append_lies w rfl s x 32 rfl base 3 i (.int .i64 0) 1 8 Yba.underlying32 hi hi0 hi1 hi2 rfl (by omega) v N xs hs oc ⟨B, 0, none⟩ 1 1 [.int .i64 u] hx (by simp)
    (by intro j y hj; match j, hj with | 0, hj => (simp at hj; subst hj; simpa [Addr.add] using hB)) (by intro y hy; simp at hy; subst hy; rfl) (by omega) (by unfold maxLen; omega) (by omega) hb H hH h
end


theorem cell_new1 (w : World) (v : Value) (e : TypeId) (n : Nat) (hn : n = w.heap.size) : (w.alloc (.cells #[v] e)).cell? ⟨n, 0, none⟩ = some v := by
  subst hn; simp

theorem heap_alloc_at (w : World) (o : Obj) (n : Nat) (hn : n = w.heap.size) : (w.alloc o).heap[n]? = some o := by
  subst hn; exact heap_alloc_new w o

set_option maxRecDepth 20000 in
set_option maxHeartbeats 800000 in
/-- newChunk where the free list is empty. -/
theorem newChunk_fresh (w : World) (b N M : Nat) (cv lv : Value) (ls ls1 : List Int) (q : QAt w b cv lv N ls 0) (hM : Hid ((N = 0 ∧ M = 1 ∧ ls1 = [0]) ∨ (0 < N ∧ N = M ∧ ls = ls1 ∧ ls.length = N))) (hN : N ≤ 3000) :
    Calls Yba.prog 8 #[.pointer (some ⟨b, 0, none⟩)] w fun e w' => e = .returned (.int .i64 M) ∧
      ∃ cv' lv', QAt w' b cv' lv' (M + 1) (ls1 ++ [0]) 0 ∧ QStep w w' b cv lv cv' lv' := by
  have c5 := q.qb.c5
  have c6 := q.qb.c6
  have c7 := q.qb.c7
  have f5 := q.qb.fr 193
  have f6 := q.qb.fr 194
  have f7 := q.qb.fr 195
  have hlt := q.qb.lt
  obtain ⟨ac, cc, hcv⟩ : ∃ a c, cv = .slice a N c := by obtain ⟨xs, oc⟩ := q.oc; exact ownsRow.sl oc
  rw [hcv] at c5
  have hmk1 := run_make31
  have hmk2 := run_make32
  clear hcv
  go_enter Yba.func8, Yba.ntmps8
  go_upto_if 32 with fail
  go_cut [] (fun wc => ∃ cv1 lv1, QAt wc b cv1 lv1 M ls1 0 ∧ QStep w wc b cv lv cv1 lv1)
  case first =>
    rcases hM.out with ⟨h0, h1, h2⟩ | ⟨h0, h1, h2, h3⟩
    · subst h0 h1 h2
      go_wp2
      go_region
      · go_wp2
        go_meet
        case rel => exact ⟨_, _, first_made q _ _ _ _ (by omega) (by omega) _ rfl (by rw [Below.heap_alloc _ _ _ (by simp)]; exact heap_alloc_at _ _ _ (by simp)) (by exact heap_alloc_at _ _ _ (by simp))⟩
      · go_wp2
        go_meet
        case rel => exact ⟨_, _, first_made q _ _ _ _ (by omega) (by omega) _ rfl (by exact heap_alloc_at _ _ _ (by simp)) (by rw [Below.heap_alloc _ _ _ (by simp)]; exact heap_alloc_at _ _ _ (by simp))⟩
    · subst h1 h2
      have h4 : ((N : Int) == 0) = false := by simp; omega
      go_wp2
      go_meet
      case rel => exact ⟨cv, lv, q, QStep.refl _ _ _ _⟩
  case rest =>
    obtain ⟨cv1, lv1, q1, st1⟩ := hcut
    have hMN : M ≤ 3001 := by rcases hM.out with ⟨h0, h1, h2⟩ | ⟨h0, h1, h2, h3⟩ <;> omega
    have hls : Hid (ls1.length = M) := by
      rcases hM.out with ⟨h0, h1, h2⟩ | ⟨h0, h1, h2, h3⟩
      · rw [h1, h2]; exact rfl
      · rw [← h1, ← h2]; exact h3
    clear c5 c6 c7 f5 f6 f7 hmk1 hmk2 hlt
    have hlt := q1.qb.lt
    have c5 := q1.qb.c5
    have f5 := q1.qb.fr 193
    obtain ⟨xs, oc⟩ := q1.oc
    go_wp2_with (first
      | (refine wpList_build0 70 (run_build70 _) ?_)
      | (refine wpList_buildSlice1 31 (u := .agg zcells.toArray) rfl (run_bs31 _) ?_)
      | (at_builtin; refine wpList_append31 (b + 1) M wc.heap.size cv1 xs (oc.alloc _) (heap_alloc_new wc _) (by omega) (by simp; omega) (wc.heap.size + 1) (by simp) rfl rfl ?_))
    intro g1 cap1 w1 oc1 gr1 at1 lt1
    obtain ⟨hq1, q2, st2⟩ := app_chunks q1 oc1 gr1 at1
    have hs1 : wc.heap.size + 1 ≤ w1.heap.size := by have := gr1.size; simpa using this
    clear c5 f5
    have c5 := hq1.c5
    have f5 := hq1.fr 193
    have c6 := hq1.c6
    have f6 := hq1.fr 194
    have ol2 := q2.ol
    rw [hls.out] at ol2
    clear oc1 gr1 at1 oc q1 hq1
    go_wp2_with (at_builtin; refine wpList_append32 (b + 1) M w1.heap.size lv1 (ls1.map (Value.int .i64)) 0 (ol2.alloc _) (cell_new1 _ _ _ _ (by simp)) (by omega) (by simp; omega) (w1.heap.size + 1) (by simp) rfl rfl ?_)
    intro g2 cap2 w2 ol3 gr2 at2 lt2
    have e1 : (ls1 ++ [0]).length = M + 1 := by simp [hls.out]
    obtain ⟨hq2, q3, st3⟩ := app_links (ls' := ls1 ++ [0]) q2 (by rw [e1]; simpa using ol3) gr2 (by simpa using at2)
    rw [e1] at q3 st3
    have q3' := q3
    have st3' := st3
    clear c5 f5 c6 f6 ol2 ol3 gr2 at2 q3 st3 e1
    have c5 := hq2.c5
    have c6 := hq2.c6
    have f6 := hq2.fr 194
    go_wp2
    go_ret
    exact ⟨rfl, _, _, q3', (st1.trans st2).trans st3'⟩

set_option maxHeartbeats 400000 in
/-- newChunk where the free list holds c. -/
theorem newChunk_reuse (w : World) (b N c h cap : Nat) (cv : Value) (ls : List Int) (q : QAt w b cv (.slice (some ⟨h, 0, none⟩) ls.length cap) N ls c) (h0 : 0 < c) (hc : c < ls.length) (_hN : ls.length ≤ 4000) :
    Calls Yba.prog 8 #[.pointer (some ⟨b, 0, none⟩)] w fun e w' => e = .returned (.int .i64 c) ∧
      QAt w' b cv (.slice (some ⟨h, 0, none⟩) ls.length cap) N (ls.set c 0) (ls.getD c 0) ∧ QStep w w' b cv (.slice (some ⟨h, 0, none⟩) ls.length cap) cv (.slice (some ⟨h, 0, none⟩) ls.length cap) := by
  have c6 := q.qb.c6
  have c7 := q.qb.c7
  have f6 := q.qb.fr 194
  have f7 := q.qb.fr 195
  have ck := q.link c hc
  have fk := q.linkFr c
  have hb : b < h := by have := (q.lge (k := h) rfl).1; omega
  have hne : ((c : Int) != 0) = true := by simp; omega
  obtain ⟨q1, st1⟩ := q.setFree (ls.getD c 0)
  obtain ⟨q2, st2⟩ := q1.setLink c 0
  have st := st1.trans st2
  clear st1 st2 q1 q
  generalize ls.getD c 0 = v at *
  go_enter Yba.func8, Yba.ntmps8
  go_wp2
  go_ret
  exact ⟨rfl, q2, st⟩

set_option maxHeartbeats 400000 in
theorem freeChunk_any (w : World) (b N c h cap : Nat) (cv : Value) (ls : List Int) (f : Int) (q : QAt w b cv (.slice (some ⟨h, 0, none⟩) ls.length cap) N ls f) (hc : c < ls.length) (_hN : ls.length ≤ 4000) :
    Calls Yba.prog 9 #[.pointer (some ⟨b, 0, none⟩), .int .i64 c] w fun e w' => e = .returned (.tuple #[]) ∧
      QAt w' b cv (.slice (some ⟨h, 0, none⟩) ls.length cap) N (ls.set c f) c ∧ QStep w w' b cv (.slice (some ⟨h, 0, none⟩) ls.length cap) cv (.slice (some ⟨h, 0, none⟩) ls.length cap) := by
  have c6 := q.qb.c6
  have c7 := q.qb.c7
  have f6 := q.qb.fr 194
  have f7 := q.qb.fr 195
  have ck := q.link c hc
  have fk := q.linkFr c
  have hb : b < h := by have := (q.lge (k := h) rfl).1; omega
  obtain ⟨q1, st1⟩ := q.setLink c f
  obtain ⟨q2, st2⟩ := q1.setFree c
  have st := st1.trans st2
  clear st1 st2 q1 q
  go_enter Yba.func9, Yba.ntmps9
  go_wp2
  go_region
  go_wp2
  go_end0
  exact ⟨rfl, q2.drew, st.drew⟩
end Go.Proofs.Ybulkzim
