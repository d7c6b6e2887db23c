import Derived.Test.YbulkzmgFmtOvadd2
namespace Go.Proofs.YbulkzmgFmt.Sc
open Go.RowKit Go.Extern.Stop Go.Stop Go.Extern
set_option linter.unusedVariables false

def FK (ks : List (Nat × Nat)) (ov : Nat → Nat × Nat) (n : Nat) : List (Value × Value) := (List.range n).map fun j => (.agg #[.string (nmN (ks.getD j (0, 0)).1), .int .i64 ((ks.getD j (0, 0)).2 : Nat)], .pointer (some ⟨(ov j).1, (ov j).2, none⟩))
def SL (b3 : Bool) : List (Value × Value) := [(.string (scN 0), .bool true), (.string (scN 1), .bool true)] ++ (if b3 then [(.string (scN 2), .bool true)] else [])

/-- The catalog, whole. -/
structure Cat (w : World) (g : Gh) (b3 : Bool) : Prop where
  body : CatB w g
  c2 : w.cell? ⟨g.cb, 2, none⟩ = some (.map (some g.fm))
  c3 : w.cell? ⟨g.cb, 3, none⟩ = some (.map (some g.sm))
  c5 : w.cell? ⟨g.cb, 5, none⟩ = some (.int .i64 (g.fs.length : Nat))
  mf : MapE w g.fm (FK g.ks g.ov g.ks.length)
  ms : MapE w g.sm (SL b3)

/-- The same catalog, later. -/
structure Ext (w : World) (g g' : Gh) : Prop where
  cb : g'.cb = g.cb
  tm : g'.tm = g.tm
  fm : g'.fm = g.fm
  sm : g'.sm = g.sm
  ty : g'.ty = g.ty
  kd : ∀ b, b < w.heap.size → g'.kd b = g.kd b

theorem Ext.refl (w : World) (g : Gh) : Ext w g g := ⟨rfl, rfl, rfl, rfl, rfl, fun _ _ => rfl⟩
theorem Ext.trans {w w' : World} {g g' g'' : Gh} (h : Ext w g g') (h' : Ext w' g' g'') (hs : w.heap.size ≤ w'.heap.size) : Ext w g g'' :=
  ⟨h'.cb.trans h.cb, h'.tm.trans h.tm, h'.fm.trans h.fm, h'.sm.trans h.sm, h'.ty.trans h.ty, fun b hb => (h'.kd b (by omega)).trans (h.kd b hb)⟩

theorem CatB.in0 {w : World} {g : Gh} (h : CatB w g) {x : Nat} (hx : g.kd x ≠ 0) : x < w.heap.size := Nat.lt_of_not_le fun hle => hx (h.beyond x hle)

theorem Free.step {w w' : World} {z : Array Value} {cb q t sz n : Nat} {a : Fr} {b o : Nat} {fa : Option Addr} {L : Nat} (c : w'.cell? ⟨cb, q, none⟩ = some (.slice fa L L)) (hL : 0 < L → fa = some ⟨b, o + n * sz, none⟩) (hs : Sh w' b t (256 * sz)) (hsz : 0 < sz) (e : o + (n + L) * sz = 256 * sz) : Free w' cb q t sz b (o + n * sz) L := by
  have hL256 : L ≤ 256 := by
    rw [Nat.add_mul] at e
    have : L * sz ≤ 256 * sz := by omega
    exact Nat.le_of_mul_le_mul_right this hsz
  refine ⟨hL256, fa, c, fun h => ⟨hL h, hs, ?_⟩⟩
  rw [Nat.add_mul] at e
  omega

/-- What the four fields of Top need of a call. -/
theorem Cat.top {w w' : World} {g : Gh} {b3 : Bool} (h : Cat w g b3) {own : Nat → Nat → Prop} (k : KC own w w') (hcb : ∀ o, o = 2 ∨ o = 3 ∨ o = 5 → ¬ own g.cb o) (hm : ∀ b o, own b o → g.kd b ≠ 8 ∧ g.kd b ≠ 9) {g' : Gh} (hb : CatB w' g') (e : Ext w g g') (efs : g'.fs = g.fs) (eks : g'.ks = g.ks) (eov : g'.ov = g.ov) : Cat w' g' b3 :=
  ⟨hb, by rw [e.cb, e.fm]; exact k.cell _ _ _ (hcb 2 (by omega)) h.c2, by rw [e.cb, e.sm]; exact k.cell _ _ _ (hcb 3 (by omega)) h.c3, by rw [e.cb, efs]; exact k.cell _ _ _ (hcb 5 (by omega)) h.c5,
    by rw [e.fm, eks, eov]; exact h.mf.kc k (fun o ho => (hm _ o ho).1 h.body.kfm), by rw [e.sm]; exact h.ms.kc k (fun o ho => (hm _ o ho).2 h.body.ksm)⟩

/-- After the argument types are written into their piece. -/
theorem CatB.args {w w' : World} {g : Gh} (h : CatB w g) {n pb po : Nat} {fa : Option Addr} {L : Nat} (k : KC (fun x y => (x = g.cb ∧ y = 8) ∨ (x = pb ∧ po ≤ y ∧ y < po + n)) w w')
    (c : w'.cell? ⟨g.cb, 8, none⟩ = some (.slice fa L L)) (hL : 0 < L → fa = some ⟨pb, po + n * 1, none⟩) (hs : Sh w' pb 34 (256 * 1)) (e : po + (n + L) * 1 = 256 * 1) (hn : 0 < n)
    (hw : (pb = g.fa.b ∧ po = g.fa.o ∧ L + n = g.fa.len) ∨ (w.heap.size ≤ pb ∧ po = 0)) :
    ∃ g', CatB w' g' ∧ g' = { g with fa := g'.fa, kd := g'.kd } ∧ Ext w g g' ∧ g'.kd pb = 4 ∧ (pb = g'.fa.b → po + n ≤ g'.fa.o) := by
  have hkp : g.kd pb = 4 ∨ (g.kd pb = 0 ∧ w.heap.size ≤ pb) := by
    rcases hw with ⟨h1, h2, h3⟩ | ⟨h1, h2⟩
    · exact .inl (by rw [h1]; exact h.kfa (by omega))
    · exact .inr ⟨h.beyond _ h1, h1⟩
  have hpl := hs.lt
  have hk1 := h.kcb
  have no : ∀ q, q ≠ 8 → ¬ ((g.cb = g.cb ∧ q = 8) ∨ (g.cb = pb ∧ po ≤ q ∧ q < po + n)) := fun q hq hh => by
    rcases hh with h1 | ⟨h1, _⟩
    · exact hq h1.2
    · rw [h1] at hk1; rcases hkp with h2 | ⟨h2, _⟩ <;> omega
  refine ⟨{ g with fa := ⟨pb, po + n * 1, L⟩, kd := fun x => if x = pb then 4 else g.kd x }, ?_, rfl, ⟨rfl, rfl, rfl, rfl, rfl, fun b hb => ?_⟩, by simp, fun _ => by show po + n ≤ po + n * 1; omega⟩
  · refine h.frame k (fun b o hb ho => ?_) g.ff ⟨pb, po + n * 1, L⟩ g.fo g.fl _ (fun b hb => ?_) (fun b hb => ?_) (.inl ⟨rfl, Nat.le_refl _⟩) ?_ (.inl ⟨rfl, Nat.le_refl _⟩) (.inl ⟨rfl, Nat.le_refl _⟩) (h.Ff.kc k (no 7 (by omega))) (Free.step (z := #[]) (a := g.fa) (w := w) c hL hs (by omega) e) (h.Fo.kc k (no 9 (by omega))) (h.Fl.kc k (no 10 (by omega)))
      (fun hl => ?_) (fun _ => by simp) (fun hl => ?_) (fun hl => ?_) (fun i hi => ?_)
    · rcases ho with ⟨h1, h2⟩ | ⟨h1, h2, h3⟩
      · exact .inl ⟨h1, by omega⟩
      · rcases hw with ⟨h4, h5, h6⟩ | ⟨h4, h5⟩
        · exact .inr (.inr (.inr (.inr (.inr (.inl ⟨by rw [h1, h4]; exact h.kfa (by omega), by rw [h1, h4], by omega⟩)))))
        · omega
    · try simp only
      by_cases hbp : b = pb
      · rw [if_pos hbp]; rw [hbp]; rcases hkp with h2 | ⟨h2, h3⟩ <;> omega
      · rw [if_neg hbp]
    · try simp only
      have := k.size
      rw [if_neg (by omega)]
      exact h.beyond b (by omega)
    · rcases hw with ⟨h4, h5, h6⟩ | ⟨h4, h5⟩
      · exact .inl ⟨h4, by show g.fa.o ≤ po + n * 1; omega⟩
      · exact .inr h4
    · have := h.kff hl
      (try simp only); rw [if_neg (fun e => by rw [e] at this; rcases hkp with h2 | ⟨h2, _⟩ <;> omega)]; exact this
    · have := h.kfo hl
      (try simp only); rw [if_neg (fun e => by rw [e] at this; rcases hkp with h2 | ⟨h2, _⟩ <;> omega)]; exact this
    · have := h.kfl hl
      (try simp only); rw [if_neg (fun e => by rw [e] at this; rcases hkp with h2 | ⟨h2, _⟩ <;> omega)]; exact this
    · have hz := h.fz i hi
      have h6 : i % 6 < oz.size := by show i % 6 < 6; omega
      rw [Array.getElem?_eq_getElem h6] at hz ⊢
      have h5 := h.kfo (by omega)
      refine k.cell _ _ _ (fun ho => ?_) hz
      rcases ho with ⟨h1, _⟩ | ⟨h1, _⟩
      · rw [h1] at h5; omega
      · rw [h1] at h5; rcases hkp with h2 | ⟨h2, _⟩ <;> omega
  · simp only
    by_cases hbp : b = pb
    · rw [if_pos hbp]; rw [hbp]; rcases hkp with h2 | ⟨h2, h3⟩ <;> omega
    · rw [if_neg hbp]

/-- After newFunction. -/
theorem CatB.newf {w w' : World} {g : Gh} (h : CatB w g) {qb qo : Nat} {fa : Option Addr} {L : Nat} (k : KC (fun x y => (x = g.cb ∧ y = 7) ∨ (x = qb ∧ qo ≤ y ∧ y < qo + 5)) w w')
    (c : qb ≠ g.cb → w'.cell? ⟨g.cb, 7, none⟩ = some (.slice fa L L)) (hL : 0 < L → fa = some ⟨qb, qo + 5, none⟩) (hs : Sh w' qb 65 (256 * 5)) (e : qo + (1 + L) * 5 = 256 * 5)
    (hw : (qb = g.ff.b ∧ qo = g.ff.o ∧ L + 1 = g.ff.len) ∨ (w.heap.size ≤ qb ∧ qo = 0)) :
    ∃ g', CatB w' g' ∧ g' = { g with ff := g'.ff, kd := g'.kd } ∧ Ext w g g' ∧ g'.kd qb = 3 ∧ (qb = g'.ff.b → qo + 5 ≤ g'.ff.o) := by
  have hkp : g.kd qb = 3 ∨ (g.kd qb = 0 ∧ w.heap.size ≤ qb) := by
    rcases hw with ⟨h1, h2, h3⟩ | ⟨h1, h2⟩
    · exact .inl (by rw [h1]; exact h.kff (by omega))
    · exact .inr ⟨h.beyond _ h1, h1⟩
  have hk1 := h.kcb
  have hne : qb ≠ g.cb := fun e => by rw [e] at hkp; rcases hkp with h2 | ⟨h2, _⟩ <;> omega
  have no : ∀ q, q ≠ 7 → ¬ ((g.cb = g.cb ∧ q = 7) ∨ (g.cb = qb ∧ qo ≤ q ∧ q < qo + 5)) := fun q hq hh => by
    rcases hh with h1 | ⟨h1, _⟩
    · exact hq h1.2
    · exact hne h1.symm
  have hpl := hs.lt
  refine ⟨{ g with ff := ⟨qb, qo + 1 * 5, L⟩, kd := fun x => if x = qb then 3 else g.kd x }, ?_, rfl, ⟨rfl, rfl, rfl, rfl, rfl, fun b hb => ?_⟩, by simp, fun _ => by show qo + 5 ≤ qo + 1 * 5; omega⟩
  · refine h.frame k (fun b o hb ho => ?_) ⟨qb, qo + 1 * 5, L⟩ g.fa g.fo g.fl _ (fun b hb => ?_) (fun b hb => ?_) ?_ (.inl ⟨rfl, Nat.le_refl _⟩) (.inl ⟨rfl, Nat.le_refl _⟩) (.inl ⟨rfl, Nat.le_refl _⟩) (Free.step (z := #[]) (a := g.ff) (w := w) (c hne) (by simpa using hL) hs (by omega) e) (h.Fa.kc k (no 8 (by omega))) (h.Fo.kc k (no 9 (by omega))) (h.Fl.kc k (no 10 (by omega)))
      (fun _ => by simp) (fun hl => ?_) (fun hl => ?_) (fun hl => ?_) (fun i hi => ?_)
    · rcases ho with ⟨h1, h2⟩ | ⟨h1, h2, h3⟩
      · exact .inl ⟨h1, by omega⟩
      · rcases hw with ⟨h4, h5, h6⟩ | ⟨h4, h5⟩
        · exact .inr (.inr (.inr (.inr (.inl ⟨by rw [h1, h4]; exact h.kff (by omega), by rw [h1, h4], by omega⟩))))
        · omega
    · try simp only
      by_cases hbp : b = qb
      · rw [if_pos hbp]; rw [hbp]; rcases hkp with h2 | ⟨h2, h3⟩ <;> omega
      · rw [if_neg hbp]
    · try simp only
      have := k.size
      rw [if_neg (by omega)]
      exact h.beyond b (by omega)
    · rcases hw with ⟨h4, h5, h6⟩ | ⟨h4, h5⟩
      · exact .inl ⟨h4, by show g.ff.o ≤ qo + 1 * 5; omega⟩
      · exact .inr h4
    · have := h.kfa hl
      (try simp only); rw [if_neg (fun e => by rw [e] at this; rcases hkp with h2 | ⟨h2, _⟩ <;> omega)]; exact this
    · have := h.kfo hl
      (try simp only); rw [if_neg (fun e => by rw [e] at this; rcases hkp with h2 | ⟨h2, _⟩ <;> omega)]; exact this
    · have := h.kfl hl
      (try simp only); rw [if_neg (fun e => by rw [e] at this; rcases hkp with h2 | ⟨h2, _⟩ <;> omega)]; exact this
    · have hz := h.fz i hi
      have h6 : i % 6 < oz.size := by show i % 6 < 6; omega
      rw [Array.getElem?_eq_getElem h6] at hz ⊢
      have h5 := h.kfo (by omega)
      refine k.cell _ _ _ (fun ho => ?_) hz
      rcases ho with ⟨h1, _⟩ | ⟨h1, _⟩
      · rw [h1] at h5; omega
      · rw [h1] at h5; rcases hkp with h2 | ⟨h2, _⟩ <;> omega
  · simp only
    by_cases hbp : b = qb
    · rw [if_pos hbp]; rw [hbp]; rcases hkp with h2 | ⟨h2, h3⟩ <;> omega
    · rw [if_neg hbp]
end Go.Proofs.YbulkzmgFmt.Sc
