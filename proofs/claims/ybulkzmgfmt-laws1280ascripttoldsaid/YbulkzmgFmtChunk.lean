import Derived.Test.YbulkzmgFmtMap
namespace Go.Proofs.YbulkzmgFmt.Sc
open Go.RowKit Go.Extern.Stop Go.Stop Go.Extern
set_option linter.unusedVariables false

theorem info_parts {P : Program} {e : TypeId} {z : Value} {sz by' : Nat} (h : (P.info? e).map (fun i => (i.zero, i.size, i.bytes)) = some (some z, sz, by')) : ∃ i, P.info? e = some i ∧ i.zero = some z ∧ i.size = sz ∧ i.bytes = by' := by
  obtain ⟨i, hi, hz⟩ := Option.map_eq_some_iff.1 h
  simp only [Prod.mk.injEq] at hz
  exact ⟨i, hi, hz.1, hz.2.1, hz.2.2⟩

/-- What chunks.slice(n) hands out: a piece (b, o) of n elements; the free rest begins behind it. -/
def Piece (z : Array Value) (t sz cb q n fb fo len : Nat) (w : World) (e : Ending) (w' : World) : Prop :=
  ∃ b o fa L, e = .returned (.slice (some ⟨b, o, none⟩) n n) ∧ KC (fun x y => x = cb ∧ y = q) w w' ∧ w'.cell? ⟨cb, q, none⟩ = some (.slice fa L L) ∧ (0 < L → fa = some ⟨b, o + n * sz, none⟩) ∧ Sh w' b t (256 * sz) ∧ o + (n + L) * sz = 256 * sz ∧
    ((b = fb ∧ o = fo ∧ L + n = len ∧ w'.heap.size = w.heap.size) ∨ (b = w.heap.size ∧ o = 0 ∧ w'.heap.size = w.heap.size + 1 ∧ len < n ∧ ∀ j, w'.cell? ⟨b, j, none⟩ = (madeCells z (256 * sz))[j]?))

theorem sh_at {w : World} {a b t n : Nat} (e : a = b) (h : Sh w b t n) : Sh w a t n := e ▸ h
theorem sh_made (w : World) (z : Array Value) (n : Nat) (t : TypeId) : Sh (w.alloc (.cells (madeCells z n) t)) w.heap.size t n := ⟨_, heap_alloc_new _ _, size_madeCells _ _⟩

theorem info34 : (Ybaf.prog.info? 34).map (fun i => (i.zero, i.size, i.bytes)) = some (some (.pointer none), 1, 8) := by kernel_rfl
theorem make39 (w : World) : (Instr.makeSlice 39 (.int .i64 256) (.int .i64 256)).run Ybaf.prog w = .ok (.slice (some ⟨w.heap.size, 0, none⟩) 256 256) (w.alloc (.cells (madeCells (.pointer none : Value).cells 256) 34)) := by
  obtain ⟨i, hi, hi0, hi1, hi2⟩ := info_parts info34
  have := run_make (P := Ybaf.prog) w 39 34 i (.pointer none) Ybaf.underlying39 hi hi0 .i64 .i64 256 256 (by omega) (by omega) (by rw [hi2]; omega) (by omega)
  rw [hi1] at this
  exact this
set_option maxRecDepth 20000 in
set_option maxHeartbeats 800000 in
theorem slice10 (cb fb fo len n : Nat) (fa : Option Addr) (w : World) (hs : Sh w cb 49 11) (hq : w.cell? ⟨cb, 8, none⟩ = some (.slice fa len len)) (hfa : 0 < len → fa = some ⟨fb, fo, none⟩ ∧ Sh w fb 34 (256 * 1) ∧ fo + len * 1 = 256 * 1) (h0 : 0 < n) (hn : n ≤ 100) (hl : len ≤ 256) :
    Calls Ybaf.prog 10 #[.pointer (some ⟨cb, 8, none⟩), .int .i64 n] w (Piece (.pointer none : Value).cells 34 1 cb 8 n fb fo len w) := by
  have hf := hs.frozen 8
  have hlt := hs.lt
  have HM := make39
  by_cases hc : len < n
  · have hmax : max (n : Int) 256 = 256 := by omega
    clear hfa
    have hsm := toHid (fun w => sh_made w (.pointer none : Value).cells 256 34)
    generalize hzs : madeCells (.pointer none : Value).cells 256 = zs at HM hsm
    have hc1 : (w.alloc (.cells zs 34)).cell? ⟨cb, 8, none⟩ = some (.slice fa len len) := (World.cell?_alloc_lt _ _ _ hlt).trans hq
    have hf1 : (w.alloc (.cells zs 34)).frozen? ⟨cb, 8, none⟩ = false := (World.frozen?_of_block (w := w) (Below.heap_alloc _ _ _ hlt)).trans hf
    go_enter Ybaf.func10, Ybaf.ntmps10
    go_wp2
    all_goals (
      go_ret
      refine ⟨w.heap.size, 0, _, 256 - n, rfl, (((KC.refl _ w).set ⟨rfl, rfl⟩ _).set ⟨rfl, rfl⟩ _).alloc _, (World.cell?_alloc_lt _ _ _ (by simpa using hlt)).trans ((World.cell?_setCell_same _ _ _ (World.cell?_setCell_same _ _ _ hq)).trans (by first | rfl | (congr 3 <;> omega))), fun hL => ?_, by exact sh_at (by simp) (hsm.out _), by omega, .inr ⟨rfl, rfl, by simp, hc, fun j => (World.cell?_alloc_at _ _ _ _ (by simp)).trans (by rw [← hzs])⟩⟩
      first | rfl | (exfalso; omega) | (simp; done))
  · obtain ⟨rfl, hsb, hfo⟩ := hfa (by omega)
    clear HM
    have hsb := toHid hsb
    by_cases hcc : len = n
    · subst hcc
      go_enter Ybaf.func10, Ybaf.ntmps10
      go_wp2
      all_goals (
        go_ret
        exact ⟨fb, fo, _, 0, rfl, (KC.refl _ w).set ⟨rfl, rfl⟩ _, World.cell?_setCell_same _ _ _ hq, fun hL => absurd hL (Nat.lt_irrefl _), hsb.out.setCell _ _, by omega, .inl ⟨rfl, rfl, by omega, by simp⟩⟩)
    · go_enter Ybaf.func10, Ybaf.ntmps10
      go_wp2
      all_goals (
        go_ret
        exact ⟨fb, fo, _, len - n, rfl, (KC.refl _ w).set ⟨rfl, rfl⟩ _, World.cell?_setCell_same _ _ _ hq, fun hL => by first | rfl | (simp; done), hsb.out.setCell _ _, by omega, .inl ⟨rfl, rfl, by omega, by simp⟩⟩)

theorem info57 : (Ybaf.prog.info? 57).map (fun i => (i.zero, i.size, i.bytes)) = some (some (.pointer none), 1, 8) := by kernel_rfl
theorem make45 (w : World) : (Instr.makeSlice 45 (.int .i64 256) (.int .i64 256)).run Ybaf.prog w = .ok (.slice (some ⟨w.heap.size, 0, none⟩) 256 256) (w.alloc (.cells (madeCells (.pointer none : Value).cells 256) 57)) := by
  obtain ⟨i, hi, hi0, hi1, hi2⟩ := info_parts info57
  have := run_make (P := Ybaf.prog) w 45 57 i (.pointer none) Ybaf.underlying45 hi hi0 .i64 .i64 256 256 (by omega) (by omega) (by rw [hi2]; omega) (by omega)
  rw [hi1] at this
  exact this
set_option maxRecDepth 20000 in
set_option maxHeartbeats 800000 in
theorem slice38 (cb fb fo len n : Nat) (fa : Option Addr) (w : World) (hs : Sh w cb 49 11) (hq : w.cell? ⟨cb, 10, none⟩ = some (.slice fa len len)) (hfa : 0 < len → fa = some ⟨fb, fo, none⟩ ∧ Sh w fb 57 (256 * 1) ∧ fo + len * 1 = 256 * 1) (h0 : 0 < n) (hn : n ≤ 100) (hl : len ≤ 256) :
    Calls Ybaf.prog 38 #[.pointer (some ⟨cb, 10, none⟩), .int .i64 n] w (Piece (.pointer none : Value).cells 57 1 cb 10 n fb fo len w) := by
  have hf := hs.frozen 10
  have hlt := hs.lt
  have HM := make45
  by_cases hc : len < n
  · have hmax : max (n : Int) 256 = 256 := by omega
    clear hfa
    have hsm := toHid (fun w => sh_made w (.pointer none : Value).cells 256 57)
    generalize hzs : madeCells (.pointer none : Value).cells 256 = zs at HM hsm
    have hc1 : (w.alloc (.cells zs 57)).cell? ⟨cb, 10, none⟩ = some (.slice fa len len) := (World.cell?_alloc_lt _ _ _ hlt).trans hq
    have hf1 : (w.alloc (.cells zs 57)).frozen? ⟨cb, 10, none⟩ = false := (World.frozen?_of_block (w := w) (Below.heap_alloc _ _ _ hlt)).trans hf
    go_enter Ybaf.func38, Ybaf.ntmps38
    go_wp2
    all_goals (
      go_ret
      refine ⟨w.heap.size, 0, _, 256 - n, rfl, (((KC.refl _ w).set ⟨rfl, rfl⟩ _).set ⟨rfl, rfl⟩ _).alloc _, (World.cell?_alloc_lt _ _ _ (by simpa using hlt)).trans ((World.cell?_setCell_same _ _ _ (World.cell?_setCell_same _ _ _ hq)).trans (by first | rfl | (congr 3 <;> omega))), fun hL => ?_, by exact sh_at (by simp) (hsm.out _), by omega, .inr ⟨rfl, rfl, by simp, hc, fun j => (World.cell?_alloc_at _ _ _ _ (by simp)).trans (by rw [← hzs])⟩⟩
      first | rfl | (exfalso; omega) | (simp; done))
  · obtain ⟨rfl, hsb, hfo⟩ := hfa (by omega)
    clear HM
    have hsb := toHid hsb
    by_cases hcc : len = n
    · subst hcc
      go_enter Ybaf.func38, Ybaf.ntmps38
      go_wp2
      all_goals (
        go_ret
        exact ⟨fb, fo, _, 0, rfl, (KC.refl _ w).set ⟨rfl, rfl⟩ _, World.cell?_setCell_same _ _ _ hq, fun hL => absurd hL (Nat.lt_irrefl _), hsb.out.setCell _ _, by omega, .inl ⟨rfl, rfl, by omega, by simp⟩⟩)
    · go_enter Ybaf.func38, Ybaf.ntmps38
      go_wp2
      all_goals (
        go_ret
        exact ⟨fb, fo, _, len - n, rfl, (KC.refl _ w).set ⟨rfl, rfl⟩ _, World.cell?_setCell_same _ _ _ hq, fun hL => by first | rfl | (simp; done), hsb.out.setCell _ _, by omega, .inl ⟨rfl, rfl, by omega, by simp⟩⟩)

theorem info65 : (Ybaf.prog.info? 65).map (fun i => (i.zero, i.size, i.bytes)) = some (some (.agg #[.string ⟨#[]⟩, .string ⟨#[]⟩, .slice none 0 0, .pointer none, .string ⟨#[]⟩]), 5, 80) := by kernel_rfl
theorem make36 (w : World) : (Instr.makeSlice 36 (.int .i64 256) (.int .i64 256)).run Ybaf.prog w = .ok (.slice (some ⟨w.heap.size, 0, none⟩) 256 256) (w.alloc (.cells (madeCells (.agg #[.string ⟨#[]⟩, .string ⟨#[]⟩, .slice none 0 0, .pointer none, .string ⟨#[]⟩] : Value).cells 1280) 65)) := by
  obtain ⟨i, hi, hi0, hi1, hi2⟩ := info_parts info65
  have := run_make (P := Ybaf.prog) w 36 65 i (.agg #[.string ⟨#[]⟩, .string ⟨#[]⟩, .slice none 0 0, .pointer none, .string ⟨#[]⟩]) Ybaf.underlying36 hi hi0 .i64 .i64 256 256 (by omega) (by omega) (by rw [hi2]; omega) (by omega)
  rw [hi1] at this
  exact this
set_option maxRecDepth 20000 in
set_option maxHeartbeats 800000 in
theorem slice34 (cb fb fo len n : Nat) (fa : Option Addr) (w : World) (hs : Sh w cb 49 11) (hq : w.cell? ⟨cb, 7, none⟩ = some (.slice fa len len)) (hfa : 0 < len → fa = some ⟨fb, fo, none⟩ ∧ Sh w fb 65 (256 * 5) ∧ fo + len * 5 = 256 * 5) (h0 : 0 < n) (hn : n ≤ 100) (hl : len ≤ 256) :
    Calls Ybaf.prog 34 #[.pointer (some ⟨cb, 7, none⟩), .int .i64 n] w (Piece (.agg #[.string ⟨#[]⟩, .string ⟨#[]⟩, .slice none 0 0, .pointer none, .string ⟨#[]⟩] : Value).cells 65 5 cb 7 n fb fo len w) := by
  have hf := hs.frozen 7
  have hlt := hs.lt
  have HM := make36
  by_cases hc : len < n
  · have hmax : max (n : Int) 256 = 256 := by omega
    clear hfa
    have hsm := toHid (fun w => sh_made w (.agg #[.string ⟨#[]⟩, .string ⟨#[]⟩, .slice none 0 0, .pointer none, .string ⟨#[]⟩] : Value).cells 1280 65)
    generalize hzs : madeCells (.agg #[.string ⟨#[]⟩, .string ⟨#[]⟩, .slice none 0 0, .pointer none, .string ⟨#[]⟩] : Value).cells 1280 = zs at HM hsm
    have hc1 : (w.alloc (.cells zs 65)).cell? ⟨cb, 7, none⟩ = some (.slice fa len len) := (World.cell?_alloc_lt _ _ _ hlt).trans hq
    have hf1 : (w.alloc (.cells zs 65)).frozen? ⟨cb, 7, none⟩ = false := (World.frozen?_of_block (w := w) (Below.heap_alloc _ _ _ hlt)).trans hf
    go_enter Ybaf.func34, Ybaf.ntmps34
    go_wp2
    all_goals (
      go_ret
      refine ⟨w.heap.size, 0, _, 256 - n, rfl, (((KC.refl _ w).set ⟨rfl, rfl⟩ _).set ⟨rfl, rfl⟩ _).alloc _, (World.cell?_alloc_lt _ _ _ (by simpa using hlt)).trans ((World.cell?_setCell_same _ _ _ (World.cell?_setCell_same _ _ _ hq)).trans (by first | rfl | (congr 3 <;> omega))), fun hL => ?_, by exact sh_at (by simp) (hsm.out _), by omega, .inr ⟨rfl, rfl, by simp, hc, fun j => (World.cell?_alloc_at _ _ _ _ (by simp)).trans (by rw [← hzs])⟩⟩
      first | rfl | (exfalso; omega) | (simp; done))
  · obtain ⟨rfl, hsb, hfo⟩ := hfa (by omega)
    clear HM
    have hsb := toHid hsb
    by_cases hcc : len = n
    · subst hcc
      go_enter Ybaf.func34, Ybaf.ntmps34
      go_wp2
      all_goals (
        go_ret
        exact ⟨fb, fo, _, 0, rfl, (KC.refl _ w).set ⟨rfl, rfl⟩ _, World.cell?_setCell_same _ _ _ hq, fun hL => absurd hL (Nat.lt_irrefl _), hsb.out.setCell _ _, by omega, .inl ⟨rfl, rfl, by omega, by simp⟩⟩)
    · go_enter Ybaf.func34, Ybaf.ntmps34
      go_wp2
      all_goals (
        go_ret
        exact ⟨fb, fo, _, len - n, rfl, (KC.refl _ w).set ⟨rfl, rfl⟩ _, World.cell?_setCell_same _ _ _ hq, fun hL => by first | rfl | (simp; done), hsb.out.setCell _ _, by omega, .inl ⟨rfl, rfl, by omega, by simp⟩⟩)

theorem info84 : (Ybaf.prog.info? 84).map (fun i => (i.zero, i.size, i.bytes)) = some (some (.agg #[.int .i64 0, .slice none 0 0, .map none, .slice none 0 0, .map none, .map none]), 6, 80) := by kernel_rfl
theorem make42 (w : World) : (Instr.makeSlice 42 (.int .i64 256) (.int .i64 256)).run Ybaf.prog w = .ok (.slice (some ⟨w.heap.size, 0, none⟩) 256 256) (w.alloc (.cells (madeCells (.agg #[.int .i64 0, .slice none 0 0, .map none, .slice none 0 0, .map none, .map none] : Value).cells 1536) 84)) := by
  obtain ⟨i, hi, hi0, hi1, hi2⟩ := info_parts info84
  have := run_make (P := Ybaf.prog) w 42 84 i (.agg #[.int .i64 0, .slice none 0 0, .map none, .slice none 0 0, .map none, .map none]) Ybaf.underlying42 hi hi0 .i64 .i64 256 256 (by omega) (by omega) (by rw [hi2]; omega) (by omega)
  rw [hi1] at this
  exact this
set_option maxRecDepth 20000 in
set_option maxHeartbeats 800000 in
theorem slice28 (cb fb fo len n : Nat) (fa : Option Addr) (w : World) (hs : Sh w cb 49 11) (hq : w.cell? ⟨cb, 9, none⟩ = some (.slice fa len len)) (hfa : 0 < len → fa = some ⟨fb, fo, none⟩ ∧ Sh w fb 84 (256 * 6) ∧ fo + len * 6 = 256 * 6) (h0 : 0 < n) (hn : n ≤ 100) (hl : len ≤ 256) :
    Calls Ybaf.prog 28 #[.pointer (some ⟨cb, 9, none⟩), .int .i64 n] w (Piece (.agg #[.int .i64 0, .slice none 0 0, .map none, .slice none 0 0, .map none, .map none] : Value).cells 84 6 cb 9 n fb fo len w) := by
  have hf := hs.frozen 9
  have hlt := hs.lt
  have HM := make42
  by_cases hc : len < n
  · have hmax : max (n : Int) 256 = 256 := by omega
    clear hfa
    have hsm := toHid (fun w => sh_made w (.agg #[.int .i64 0, .slice none 0 0, .map none, .slice none 0 0, .map none, .map none] : Value).cells 1536 84)
    generalize hzs : madeCells (.agg #[.int .i64 0, .slice none 0 0, .map none, .slice none 0 0, .map none, .map none] : Value).cells 1536 = zs at HM hsm
    have hc1 : (w.alloc (.cells zs 84)).cell? ⟨cb, 9, none⟩ = some (.slice fa len len) := (World.cell?_alloc_lt _ _ _ hlt).trans hq
    have hf1 : (w.alloc (.cells zs 84)).frozen? ⟨cb, 9, none⟩ = false := (World.frozen?_of_block (w := w) (Below.heap_alloc _ _ _ hlt)).trans hf
    go_enter Ybaf.func28, Ybaf.ntmps28
    go_wp2
    all_goals (
      go_ret
      refine ⟨w.heap.size, 0, _, 256 - n, rfl, (((KC.refl _ w).set ⟨rfl, rfl⟩ _).set ⟨rfl, rfl⟩ _).alloc _, (World.cell?_alloc_lt _ _ _ (by simpa using hlt)).trans ((World.cell?_setCell_same _ _ _ (World.cell?_setCell_same _ _ _ hq)).trans (by first | rfl | (congr 3 <;> omega))), fun hL => ?_, by exact sh_at (by simp) (hsm.out _), by omega, .inr ⟨rfl, rfl, by simp, hc, fun j => (World.cell?_alloc_at _ _ _ _ (by simp)).trans (by rw [← hzs])⟩⟩
      first | rfl | (exfalso; omega) | (simp; done))
  · obtain ⟨rfl, hsb, hfo⟩ := hfa (by omega)
    clear HM
    have hsb := toHid hsb
    by_cases hcc : len = n
    · subst hcc
      go_enter Ybaf.func28, Ybaf.ntmps28
      go_wp2
      all_goals (
        go_ret
        exact ⟨fb, fo, _, 0, rfl, (KC.refl _ w).set ⟨rfl, rfl⟩ _, World.cell?_setCell_same _ _ _ hq, fun hL => absurd hL (Nat.lt_irrefl _), hsb.out.setCell _ _, by omega, .inl ⟨rfl, rfl, by omega, by simp⟩⟩)
    · go_enter Ybaf.func28, Ybaf.ntmps28
      go_wp2
      all_goals (
        go_ret
        exact ⟨fb, fo, _, len - n, rfl, (KC.refl _ w).set ⟨rfl, rfl⟩ _, World.cell?_setCell_same _ _ _ hq, fun hL => by first | rfl | (simp; done), hsb.out.setCell _ _, by omega, .inl ⟨rfl, rfl, by omega, by simp⟩⟩)
end Go.Proofs.YbulkzmgFmt.Sc
