/- The argument opened; unicode.properties out of what the row lays. -/
import Derived.Test.YbulkzmgFmtRows
import Derived.Test.YbulkzmgFmtLawA
import Derived.ChangeSlices
import Derived.Deep.Slices
import Derived.OpenShut
import Derived.ProofKit
import Derived.Lib.LaidTab
import Derived.Stop.LaidErr
import Derived.MakeChecks
namespace Go.Proofs.YbulkzmgFmt.Sc
open Go.RowKit Go.Extern.Stop Go.Stop Go.Extern Go.ChangeShapes Go.WideShapes Go.ChangeAt
set_option linter.unusedVariables false

theorem opCells25 : Ybaf.prog.cellsOf 25 = 4 := by kernel_rfl
theorem opCells23 : Ybaf.prog.cellsOf 23 = 1 := by kernel_rfl
theorem opCells5 : Ybaf.prog.cellsOf 5 = 1 := by kernel_rfl
theorem opMaxLen : maxLen ≤ 9223372036854775807 := by decide

theorem list_len4 {α : Type} {l : List α} (h : l.length = 4) : ∃ a b c d, l = [a, b, c, d] := by
  rcases l with _ | ⟨a, _ | ⟨b, _ | ⟨c, _ | ⟨d, _ | ⟨e, l⟩⟩⟩⟩⟩ <;> simp at h
  exact ⟨a, b, c, d, rfl⟩

/-- A slice of bytes, opened. -/
theorem open_args {H : Type} {enc : TypeId × Value → H} {w : World} {base : Nat} {held : Bool} {m : Nat} {v : Value} {x : DataW H × List MemPlace} (h : DataW.trod enc Ybaf.prog w base (fun _ => true) held m 23 [v] = some x) :
    ∃ (aa : Option Addr) (al ac : Nat) (d : Nat → Nat), v = .slice aa al ac ∧ al ≤ 9223372036854775807 ∧ (0 < al → ∃ x y, aa = some ⟨x, y, none⟩ ∧ ∀ j, j < al → w.cell? ⟨x, y + j, none⟩ = some (.int .u8 (d j : Nat)) ∧ d j ≤ 255) := by
  rcases open_ints Ybaf.underlying23 Ybaf.underlying5 opCells5 h with ⟨hcs, hx⟩ | ⟨a, len, cap, zs, hcs, _, hl, hm, hz, hx, hcell, hwz⟩
  · simp only [List.cons.injEq, and_true] at hcs
    exact ⟨none, 0, 0, fun _ => 0, hcs, by omega, fun h => absurd h (Nat.lt_irrefl _)⟩
  · simp only [List.cons.injEq, and_true] at hcs
    simp only [if_true] at hz
    refine ⟨some a, len, cap, fun j => (zs.getD j 0).toNat, hcs, by have := opMaxLen; omega, fun h0 => ?_⟩
    obtain ⟨b, off, rfl, hc⟩ := ints_at hcell (by omega)
    refine ⟨b, off, rfl, fun j hj => ?_⟩
    have hr := range_u8 hwz j
    simp only [List.getD_eq_getElem?_getD] at hr ⊢
    refine ⟨?_, by omega⟩
    rw [hc j (by omega), List.getD_eq_getElem?_getD]
    congr 2
    omega

set_option maxRecDepth 100000 in
/-- The steps, opened. -/
theorem open_steps {H : Type} {enc : TypeId × Value → H} {w : World} {base : Nat} {held : Bool} {m : Nat} {ta : Option Addr} {n c : Nat} {x : DataW H × List MemPlace} (h : DataW.trod enc Ybaf.prog w base (fun _ => true) held m 22 [.slice ta n c] = some x) :
    n ≤ 9223372036854775807 ∧ ∃ S : Nat → StepD, ∀ i, i < n → ∃ b o, ta = some ⟨b, o, none⟩ ∧ StepAt w b (o + i * 4) (S i) := by
  rcases Deep.open_slice Ybaf.underlying22 h with ⟨hcs, hx⟩ | ⟨a, len, cap, m', n', D, Pl, hcs, hb, hl, hm, hmm, hx, hv⟩
  · simp only [List.cons.injEq, and_true, Value.slice.injEq] at hcs
    obtain ⟨rfl, rfl, rfl⟩ := hcs
    exact ⟨by omega, fun _ => ⟨0, 0, 0, none, 0, 0, fun _ => 0⟩, fun i h => absurd h (Nat.not_lt_zero _)⟩
  · simp only [List.cons.injEq, and_true, Value.slice.injEq] at hcs
    obtain ⟨rfl, rfl, rfl⟩ := hcs
    simp only [if_true] at hmm
    subst hmm
    refine ⟨by have := opMaxLen; omega, ?_⟩
    have each : ∀ i, i < n → ∃ S : StepD, ∃ b o, some a = some ⟨b, o, none⟩ ∧ StepAt w b (o + i * 4) S := by
      intro i hi
      obtain ⟨c0', h01, _⟩ := hv 0 (by omega)
      rw [opCells25] at h01
      obtain ⟨_, hl0, hc0⟩ := World.cells?_some h01
      obtain ⟨u0, u1, u2, u3, rfl⟩ := list_len4 hl0
      have e0 := hc0 0 (by omega)
      obtain ⟨b, o, spot⟩ := a
      have hspot : spot = none := by
        have e0' : w.cell? ((({ block := b, off := o, spot := spot } : Addr).add (0 * 4)).add 0) = some u0 := e0
        have := World.cell?_spot e0'
        simpa [Addr.add] using this
      subst hspot
      clear h01 hc0 e0
      obtain ⟨cs', h1, h2⟩ := hv i (by omega)
      rw [opCells25] at h1
      obtain ⟨_, hlen, hcell⟩ := World.cells?_some h1
      obtain ⟨xs, k, hk, hxy, _, hxl, hf⟩ := DataW.trod_struct Ybaf.underlying25 h2
      obtain ⟨y0, y1, y2, y3, rfl⟩ := list_len4 hxl
      obtain ⟨v0, v1, v2, v3, rfl⟩ := list_len4 hlen
      clear hxy hx hxl hlen hm
      have g0 := hf 0 _ rfl
      have g1 := hf 1 _ rfl
      have g2 := hf 2 _ rfl
      have g3 := hf 3 _ rfl
      simp [opCells5, opCells23] at g0 g1 g2 g3
      have e0 := hcell 0 (by omega)
      have e1 := hcell 1 (by omega)
      have e2 := hcell 2 (by omega)
      have e3 := hcell 3 (by omega)
      rw [Deep.add_add] at e0 e1 e2 e3
      rw [Go.WideShapes.add_plain] at e0 e1 e2 e3
      simp at e0 e1 e2 e3
      obtain ⟨z0, hz0, _, hw0⟩ := DataW.trod_int Ybaf.underlying5 g0
      obtain ⟨z1, hz1, _, hw1⟩ := DataW.trod_int Ybaf.underlying5 g1
      obtain ⟨z3, hz3, _, hw3⟩ := DataW.trod_int Ybaf.underlying5 g3
      obtain ⟨aa, al, ac, d, rfl, hal, hargs⟩ := open_args g2
      simp only [List.cons.injEq, and_true] at hz0 hz1 hz3
      subst hz0 hz1 hz3
      have b0 := bounds_u8 hw0
      have b1 := bounds_u8 hw1
      have b3 := bounds_u8 hw3
      refine ⟨⟨z0.toNat, z1.toNat, z3.toNat, aa, al, ac, d⟩, b, o, rfl, ?_, ?_, e2, ?_, ⟨by simp; omega, by simp; omega, by simp; omega, hal⟩, hargs⟩
      · rw [e0]; congr 2; simp; omega
      · rw [show o + i * 4 + 1 = o + (i * 4 + 1) by omega, e1]; congr 2; simp; omega
      · rw [show o + i * 4 + 3 = o + (i * 4 + 3) by omega, e3]; congr 2; simp; omega
    haveI : Inhabited StepD := ⟨⟨0, 0, 0, none, 0, 0, fun _ => 0⟩⟩
    exact Deep.choose_lt each

set_option maxRecDepth 100000 in
/-- 'unicode.properties' as the row lays it. -/
theorem pt_of_laid {w : World} (h : laidMetH Ybaf.prog Rows.lawS1280AScriptRow.laid w) : PT w := by
  rw [Go.MakeChecks.laidMetH_plain _ _ _ (by kernel_rfl)] at h
  have h' : laidMet Ybaf.prog [("unicode.White_Space", Rows.laid_unicode_White_Space), ("unicode.properties", Lib.tabData .u8 Lib.propertiesTab)] w := h
  have hT := Lib.tabIs_of_head (g := 1) (P := Ybaf.prog) (k := .u8) (zs := Lib.propertiesTab) (by kernel_rfl) (t := 109) (by kernel_rfl) (e := 5) (n := 256) (by kernel_rfl) (by kernel_rfl) (by kernel_rfl) (by kernel_rfl) h'.tail
  intro c hc
  exact hT.cell (by kernel_rfl) c (by rw [Lib.propertiesTab_length]; omega)
end Go.Proofs.YbulkzmgFmt.Sc
