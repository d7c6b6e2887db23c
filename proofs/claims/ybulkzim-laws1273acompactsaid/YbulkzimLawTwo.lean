import Derived.Test.YbulkzimLawOne
namespace Go.Proofs.Ybulkzim.Comp
open Go.RowKit

/-- The simulation behind compact. -/
def sTwo (gi gh gk g n W C : Nat) : SimC := ⟨.slice (some ⟨g, 0, none⟩) C n, .slice (some ⟨gi, 0, none⟩) n n, .slice (some ⟨gh, 0, none⟩) W W, .slice (some ⟨gk, 0, none⟩) W W, C, C, 0⟩

/-- What holds behind compact. -/
structure L2 (w : World) (b gi gh gk g n W : Nat) (A P : Nat → Int) (K : Nat → Bool) (C : Nat) (V : List Nat) (wr : World) : Prop where
  due : Due wr g n A P V
  len : V.length = C
  perm : List.Perm V (kept K n)
  heap : heapFrom A P 0 V
  rs : wr.rowIs b 43 211 (simF (sTwo gi gh gk g n W C))
  rh : wr.rowIs gh 25 W (wf (off (fun j => decide (j < n)) K n))
  rk : wr.rowIs gk 25 W (wf (off (fun j => decide (j < n) && K j) K n))
  bel : Below w.heap.size w wr
  lo : w.heap.size ≤ b ∧ b < gi ∧ gi < gh ∧ gh < gk ∧ gk < g

theorem comp_call {w wr : World} {b gi gh gk g n W C dd : Nat} {A P : Nat → Int} {K : Nat → Bool} (L : L1 w b gi gh gk g n W A P K n n n wr) (hn : n ≤ 1024) (hW : W = (n + 63) / 64) (hC : (kept K n).length = C) :
    Calls Yba.prog 6 #[.pointer (some ⟨b, 0, none⟩)]
      ((((wr.setCell ⟨b, 202, none⟩ (.int .i64 (n : Int))).setCell ⟨b, 4, none⟩ (.slice (some ⟨g, 0, none⟩) n n)).setCell ⟨b, 198, none⟩ (.int .i64 (n : Int))).setCell ⟨b, 204, none⟩ (.int .i64 (dd : Int)))
      fun e w' => e = .returned (.tuple #[]) ∧ ∃ V, L2 w b gi gh gk g n W A P K C V w' := by
  have lo := L.lo
  have r1 := L.rs.set 202 (.int .i64 (n : Int))
  rw [simF_sn] at r1
  have r2 := r1.set 4 (.slice (some ⟨g, 0, none⟩) n n)
  rw [simF_dv] at r2
  have r3 := r2.set 198 (.int .i64 (n : Int))
  rw [simF_evn] at r3
  have r4 := r3.set 204 (.int .i64 (dd : Int))
  rw [simF_dead] at r4
  have hk : Kept (fun j => j = b) wr ((((wr.setCell ⟨b, 202, none⟩ (.int .i64 (n : Int))).setCell ⟨b, 4, none⟩ (.slice (some ⟨g, 0, none⟩) n n)).setCell ⟨b, 198, none⟩ (.int .i64 (n : Int))).setCell ⟨b, 204, none⟩ (.int .i64 (dd : Int))) :=
    ((((Kept.refl (fun j => j = b) wr).setCell (p := ⟨b, 202, none⟩) rfl _).setCell (p := ⟨b, 4, none⟩) rfl _).setCell (p := ⟨b, 198, none⟩) rfl _).setCell (p := ⟨b, 204, none⟩) rfl _
  refine (compact_any _ b g gh gk n W _ _ _ K A P (L.due.kept hk (by omega)) r4 (hk.row L.rh (by omega)) (hk.row L.rk (by omega)) (by omega) (by omega) (by omega) (by omega) (by omega) (by omega) rfl rfl rfl hn hW
    (fun i hi => by simp [hi]) rfl C hC).mono ?_
  rintro e w' ⟨rfl, V, D⟩
  have hb2 := kept_below hk L.bel L.bel.size (fun j e => by omega)
  refine ⟨rfl, V, D.due, D.len, D.perm, D.heap, ?_, D.rh, D.rk, kept_below D.kp hb2 hb2.size (fun j e => by unfold own4 at e; omega), lo⟩
  have e : simF (sTwo gi gh gk g n W C) = simF { sOne gi gh gk n W with dv := .slice (some ⟨g, 0, none⟩) C n, evn := C, sn := (n : Int) - ((n : Int) - (C : Int)), dead := 0 } := by
    have : (n : Int) - ((n : Int) - (C : Int)) = C := by omega
    rw [this]; rfl
  rw [e]
  exact D.rs

section
variable {w wr w' : World} {b gi gh gk g n W C k gs : Nat} {A P : Nat → Int} {K : Nat → Bool} {V : List Nat}

theorem L2.alloc (l : L2 w b gi gh gk g n W A P K C V wr) (o : Obj) : L2 w b gi gh gk g n W A P K C V (wr.alloc o) :=
  ⟨l.due.alloc o, l.len, l.perm, l.heap, l.rs.alloc o, l.rh.alloc o, l.rk.alloc o, l.bel.alloc l.bel.size o, l.lo⟩
theorem L2.drewN (l : L2 w b gi gh gk g n W A P K C V wr) (m : Nat) : L2 w b gi gh gk g n W A P K C V (wr.drewN m) :=
  ⟨l.due, l.len, l.perm, l.heap, l.rs, l.rh, l.rk, below_drewN l.bel m, l.lo⟩
theorem L2.seen (l : L2 w b gi gh gk g n W A P K C V wr) (hg : g < gs) (j : Nat) (v : Value) : L2 w b gi gh gk g n W A P K C V (wr.setCell ⟨gs, j, none⟩ v) := by
  have lo := l.lo
  have hk : Kept (fun j => j = gs) wr (wr.setCell ⟨gs, j, none⟩ v) := (Kept.refl (fun j => j = gs) wr).setCell (p := ⟨gs, j, none⟩) rfl v
  exact ⟨l.due.kept hk (by omega), l.len, l.perm, l.heap, hk.row l.rs (by omega), hk.row l.rh (by omega), hk.row l.rk (by omega), kept_below hk l.bel l.bel.size (fun j e => by omega), lo⟩

theorem mem_kept {x : Nat} (h : x ∈ kept K n) : x < n ∧ K x = false := by
  unfold kept at h
  rw [List.mem_filter, List.mem_range] at h
  exact ⟨h.1, by simpa using h.2⟩
theorem L2.place (l : L2 w b gi gh gk g n W A P K C V wr) (hk : k < C) : V.getD k 0 < n ∧ K (V.getD k 0) = false ∧ V.getD k 0 ∉ V.take k := by
  have hl := l.len
  have hm : V.getD k 0 ∈ V := by simp only [List.getD, List.getElem?_eq_getElem (show k < V.length by omega), Option.getD_some]; exact List.getElem_mem _
  have h1 := mem_kept (l.perm.mem_iff.1 hm)
  refine ⟨h1.1, h1.2, ?_⟩
  have hnd : V.Nodup := by
    have : (kept K n).Nodup := List.Pairwise.filter _ List.nodup_range
    exact l.perm.symm.nodup this
  intro hin
  obtain ⟨j, hj, e⟩ := List.getElem_of_mem hin
  rw [List.getElem_take] at e
  have hjk : j < k := by simp at hj; omega
  have e2 : V.getD k 0 = V[k] := by simp [List.getD, show k < V.length by omega]
  rw [e2] at e
  have := (List.getElem_inj hnd).1 e
  omega
theorem L2.order (l : L2 w b gi gh gk g n W A P K C V wr) (hk : k < C) (h0 : 0 < k) : bef A P (V.getD k 0) (V.getD ((k - 1) / 2) 0) = false :=
  l.heap k (by omega) (by have := l.len; omega) (Nat.zero_le _)

/-- The row 'seen' behind k rounds. -/
def seenF (V : List Nat) (k : Nat) : Nat → Value := fun j => .bool (decide (j ∈ V.take k))
theorem seen_next {k : Nat} (hk : k < V.length) : (fun j => if j = V.getD k 0 then Value.bool true else seenF V k j) = seenF V (k + 1) := by
  funext j
  unfold seenF
  have e : V.take (k + 1) = V.take k ++ [V.getD k 0] := by
    rw [List.take_succ_eq_append_getElem hk]; simp [List.getD, hk]
  rw [e]
  by_cases h : j = V.getD k 0
  · simp [h]
  · rw [if_neg h]; simp only [List.mem_append, List.mem_singleton, h, or_false]
theorem seen_start (V : List Nat) : (fun _ => Value.bool false) = seenF V 0 := by funext j; simp [seenF]
end
end Go.Proofs.Ybulkzim.Comp
