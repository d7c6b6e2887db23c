import Derived.Test.YbulkzmgFmtList
namespace Go.Proofs.YbulkzmgFmt.Sc
open Go.RowKit Go.Extern.Stop Go.Stop Go.Extern
set_option linter.unusedVariables false

theorem HasL.kc {own : Nat → Nat → Prop} {w w' : World} {a : Addr} {l : ByteArray} (h : HasL w a l) (k : KC own w w') (ho : ∀ o, ¬ own a.block o) : HasL w' a l := by
  obtain ⟨b, o, s, m, rfl, h0, h1, h4, hs⟩ := h
  exact ⟨b, o, s, m, rfl, k.cell _ _ _ (ho _) h0, k.cell _ _ _ (ho _) h1, k.cell _ _ _ (ho _) h4, hs⟩
theorem eql45_nil (w : World) : (binOp .eql 45 (.slice none 0 0) (.slice none 0 0)).run Ybaf.prog w = .ok (.bool true) w := by kernel_rfl
theorem eql45_some (a : Addr) (n c : Nat) (w : World) : (binOp .eql 45 (.slice (some a) n c) (.slice none 0 0)).run Ybaf.prog w = .ok (.bool false) w := by kernel_rfl
theorem neq33_nil (w : World) : (binOp .neq 33 (.map none) (.map none)).run Ybaf.prog w = .ok (.bool false) w := by kernel_rfl
theorem neq33_some (m : Nat) (w : World) : (binOp .neq 33 (.map (some m)) (.map none)).run Ybaf.prog w = .ok (.bool true) w := by kernel_rfl
theorem eql33_nil (w : World) : (binOp .eql 33 (.map none) (.map none)).run Ybaf.prog w = .ok (.bool true) w := by kernel_rfl
theorem eql33_some (m : Nat) (w : World) : (binOp .eql 33 (.map (some m)) (.map none)).run Ybaf.prog w = .ok (.bool false) w := by kernel_rfl

set_option maxRecDepth 20000 in
set_option maxHeartbeats 1600000 in
/-- add of the first function. -/
theorem add29_first (sb so t N cb fb fo len : Nat) (fa : Option Addr) (p : Addr) (k : ByteArray) (w : World) (h0 : w.cell? ⟨sb, so, none⟩ = some (.slice none 0 0)) (h1 : w.cell? ⟨sb, so + 1, none⟩ = some (.map none)) (hsb : Sh w sb t N) (hL : HasL w p k)
    (hs : Sh w cb 49 11) (hq : w.cell? ⟨cb, 10, none⟩ = some (.slice fa len len)) (hfa : 0 < len → fa = some ⟨fb, fo, none⟩ ∧ Sh w fb 57 (256 * 1) ∧ fo + len * 1 = 256 * 1) (hl : len ≤ 256) (hne : sb ≠ cb) (hfb : fb ≠ sb) (hfc : fb ≠ cb) :
    Calls Ybaf.prog 29 #[.pointer (some ⟨sb, so, none⟩), .pointer (some p), .pointer (some ⟨cb, 10, none⟩)] w fun e w' => ∃ b o fa' L, e = .returned (.bool true) ∧ KC (fun x y => (x = cb ∧ y = 10) ∨ (x = sb ∧ y = so) ∨ (x = b ∧ y = o)) w w' ∧
      w'.cell? ⟨sb, so, none⟩ = some (.slice (some ⟨b, o, none⟩) 1 1) ∧ w'.cell? ⟨sb, so + 1, none⟩ = some (.map none) ∧ LV w' 1 (fun _ => p) b o 1 ∧ w'.cell? ⟨cb, 10, none⟩ = some (.slice fa' L L) ∧ (0 < L → fa' = some ⟨b, o + 1, none⟩) ∧ Sh w' b 57 256 ∧ o + (1 + L) = 256 ∧
      ((b = fb ∧ o = fo ∧ L + 1 = len) ∨ (w.heap.size ≤ b ∧ b < w'.heap.size ∧ o = 0 ∧ len < 1)) := by
  have HA := toHid hL.call
  have HC := toHid (fun (w1 : World) => contains36 none 0 0 w1.heap.size (fun _ => p) (fun _ => k) k (w1.alloc (.cells #[.string k] 9)) (.inl rfl) (fun j hj => by omega) (cell_of_row _ _ _ _ _ _ (heap_alloc_new _ _)) (by omega))
  have hlt := hsb.lt
  have HS := toHid (fun (w1 : World) (hk : KC nob w w1) => slice38 cb fb fo len 1 fa w1 (hk.shape _ _ _ hs) (hk.cell _ _ _ id hq) (fun h => ⟨(hfa h).1, hk.shape _ _ _ (hfa h).2.1, (hfa h).2.2⟩) (by omega) (by omega) hl)
  have q1 := eql45_nil
  have q2 := eql45_some
  have q3 := neq33_nil
  have q4 := eql33_nil
  have hc0 := toHid h0
  have hc1 := toHid h1
  clear h0 h1
  replace hL := toHid hL
  replace hs := toHid hs
  replace hq := toHid hq
  replace hfa := toHid hfa
  replace hsb := toHid hsb
  go_enter Ybaf.func29, Ybaf.ntmps29
  go_wp2_with first
    | (go_at_call 35; refine HA.out.mono ?_; rintro e w1 ⟨rfl, hd⟩; have k1 : KC nob w w1 := (by obtain ⟨n, rfl⟩ := hd; exact (KC.refl _ _).drewN n); clear hd; have a0 := k1.cell _ _ _ id hc0.out; have a1 := k1.cell _ _ _ id hc1.out; have z0 := (k1.shape _ _ _ hsb.out).frozen so; have z1 := (k1.shape _ _ _ hsb.out).frozen (so + 1); have lt1 := (k1.shape _ _ _ hsb.out).lt)
    | (go_at_call 36; refine (HC.out w1).mono ?_; rintro e w2 ⟨r, mm2, rfl, hd, hr⟩; have hrf : r = false := (by cases r; rfl; exfalso; obtain ⟨j, hj, _⟩ := hr.1 rfl; omega); subst hrf; clear hr; have k2 : KC nob w w2 := (by rw [hd]; exact (k1.alloc _).drewN _); clear hd; have b0 := k2.cell _ _ _ id hc0.out; have b1 := k2.cell _ _ _ id hc1.out)
    | (go_at_call 38; refine (HS.out w2 k2).mono ?_; rintro e w3 ⟨qb, qo, fa', L, rfl, hK, hcq, hL', hsq, hoL, hor⟩; have k3 := toHid (k2.any.trans hK); have hne' : ¬ (sb = cb ∧ so = 10) := (fun e => hne e.1); have hne1 : ¬ (sb = cb ∧ so + 1 = 10) := (fun e => hne e.1); have d0 := hK.cell _ _ _ hne' b0; have d1 := hK.cell _ _ _ hne1 b1; have y0 := (k3.out.shape _ _ _ hsb.out).frozen so; have y1 := (k3.out.shape _ _ _ hsb.out).frozen (so + 1); have lt3 := (k3.out.shape _ _ _ hsb.out).lt; have hqs : qb ≠ sb := (by have lt2 := (k2.shape _ _ _ hsb.out).lt; rcases hor with ⟨h, _⟩ | ⟨h, _⟩ <;> omega); have hqs' : sb ≠ qb := hqs.symm; have hqc : qb ≠ cb := (by have lt2 := (k2.shape _ _ _ hs.out).lt; rcases hor with ⟨h, _⟩ | ⟨h, _⟩ <;> omega); obtain ⟨u, hu⟩ := hsq.some (i := qo) (by omega); have y2 := hsq.frozen qo; have hP := toHid hcq; have hor := toHid hor; have hsq := toHid hsq; clear hK hcq hne' hne1)
  go_ret
  have kW : KC (fun x y => (x = cb ∧ y = 10) ∨ (x = sb ∧ y = so) ∨ (x = qb ∧ y = qo)) w ((w3.setCell ⟨sb, so, none⟩ (.slice (some ⟨qb, qo, none⟩) 1 1)).setCell ⟨qb, qo, none⟩ (.pointer (some p))) :=
    ((k3.out.mono (fun x y _ h => .inl h)).set (.inr (.inl ⟨rfl, rfl⟩)) _).set (.inr (.inr ⟨rfl, rfl⟩)) _
  have cW0 := (World.cell?_setCell_other (w3.setCell ⟨sb, so, none⟩ (.slice (some ⟨qb, qo, none⟩) 1 1)) ⟨qb, qo, none⟩ ⟨sb, so, none⟩ (.pointer (some p)) (fun e => hqs (by cases e; rfl))).trans (World.cell?_setCell_same _ _ _ d0)
  have cW1 := (World.cell?_setCell_other (w3.setCell ⟨sb, so, none⟩ (.slice (some ⟨qb, qo, none⟩) 1 1)) ⟨qb, qo, none⟩ ⟨sb, so + 1, none⟩ (.pointer (some p)) (fun e => hqs (by cases e; rfl))).trans ((World.cell?_setCell_other w3 ⟨sb, so, none⟩ ⟨sb, so + 1, none⟩ _ (fun e => by cases e)).trans d1)
  have cWq := World.cell?_setCell_same (w3.setCell ⟨sb, so, none⟩ (.slice (some ⟨qb, qo, none⟩) 1 1)) ⟨qb, qo, none⟩ (.pointer (some p)) ((World.cell?_setCell_other w3 ⟨sb, so, none⟩ ⟨qb, qo, none⟩ _ (fun e => hqs' (by cases e; rfl))).trans hu)
  have cWc := (World.cell?_setCell_other (w3.setCell ⟨sb, so, none⟩ (.slice (some ⟨qb, qo, none⟩) 1 1)) ⟨qb, qo, none⟩ ⟨cb, 10, none⟩ (.pointer (some p)) (fun e => hqc (by cases e; rfl))).trans ((World.cell?_setCell_other w3 ⟨sb, so, none⟩ ⟨cb, 10, none⟩ _ (fun e => hne (by cases e; rfl))).trans hP.out)
  have sW := (hsq.out.setCell ⟨sb, so, none⟩ (.slice (some ⟨qb, qo, none⟩) 1 1)).setCell ⟨qb, qo, none⟩ (.pointer (some p))
  have zW : ((w3.setCell ⟨sb, so, none⟩ (.slice (some ⟨qb, qo, none⟩) 1 1)).setCell ⟨qb, qo, none⟩ (.pointer (some p))).heap.size = w3.heap.size := by simp
  generalize ((w3.setCell ⟨sb, so, none⟩ (.slice (some ⟨qb, qo, none⟩) 1 1)).setCell ⟨qb, qo, none⟩ (.pointer (some p))) = W at kW cW0 cW1 cWq cWc sW zW ⊢
  refine ⟨qb, qo, fa', L, rfl, kW, cW0, cW1, ⟨Nat.le_refl _, fun j hj => ?_, fun h => absurd h (Nat.lt_irrefl _)⟩, cWc, fun h => by simpa using hL' h, by simpa using sW, by omega, ?_⟩
  · have : j = 0 := by omega
    subst this
    exact cWq
  · have h2 := k2.size
    have h3 := hsq.out.lt
    rcases hor.out with ⟨h1, h2, h3, _⟩ | ⟨h1, h2, _, h3, _⟩
    · exact .inl ⟨h1, h2, h3⟩
    · exact .inr ⟨by omega, by omega, h2, h3⟩
end Go.Proofs.YbulkzmgFmt.Sc
