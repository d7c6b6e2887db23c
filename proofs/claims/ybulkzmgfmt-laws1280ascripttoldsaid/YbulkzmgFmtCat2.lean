import Derived.Test.YbulkzmgFmtCat
namespace Go.Proofs.YbulkzmgFmt.Sc
open Go.RowKit Go.Extern.Stop Go.Stop Go.Extern
set_option linter.unusedVariables false

/-- What an add to the schema s of overload j may turn. -/
def Own2 (g : Gh) (j s b o : Nat) : Prop :=
  (b = (g.ov j).1 ∧ ((s < 2 ∧ (o = (g.ov j).2 + (1 + 2 * s) ∨ o = (g.ov j).2 + (1 + 2 * s) + 1)) ∨ (s = 2 ∧ o = (g.ov j).2 + 5))) ∨ (b = g.cb ∧ o = 10) ∨ (g.kd b = 6 ∧ b = g.fl.b ∧ g.fl.o ≤ o) ∨ g.kd b = KL j s ∨ g.kd b = KM j s ∨ (s = 2 ∧ g.kd b = KX j)

theorem grp_snoc (fs : List Fn) (φ : Fn) (k : Nat × Nat) (s : Nat) : grp (fs ++ [φ]) k s = grp fs k s ++ (if φ.m = k.1 ∧ φ.n = k.2 ∧ φ.s = s then [φ] else []) := by
  unfold grp
  rw [List.filter_append]
  congr 1
  by_cases h : φ.m = k.1 ∧ φ.n = k.2 ∧ φ.s = s <;> simp [h]

theorem SoAt.frame2 {w w' : World} {g : Gh} (h : CatB w g) {j0 s0 : Nat} (hj0 : j0 < g.ks.length) (hs0 : s0 < 3) {own : Nat → Nat → Prop} (k : KC own w w') (hown : ∀ b o, b < w.heap.size → own b o → Own2 g j0 s0 b o) {g' : Gh} (hkd : ∀ b, b < w.heap.size → g'.kd b = g.kd b) (al : Adv w g.fl g'.fl) {L : List Fn} {j s : Nat} {lv mv : Value} (hs : s < 3) (hne : ¬ (j = j0 ∧ s = s0)) (hss : g'.ss j s = g.ss j s) (a : SoAt w g L j s lv mv) :
    SoAt w' g' L j s lv mv := by
  have k5 := (h.ovs j0 hj0).kb
  have k1 := h.kcb
  have hb : 0 < L.length → (g.ss j s).b < w.heap.size := fun h0 => by
    rcases a.so with ⟨h1, _⟩ | ⟨_, _, hv, _⟩
    · omega
    · have := block_lt_of_cell (hv.cell 0 h0); simpa using this
  have hmb : 8 < L.length → (g.ss j s).mb < w.heap.size := fun h8 => by
    rcases a.so with ⟨h1, _⟩ | ⟨_, _, _, hm⟩
    · omega
    · rcases hm with ⟨h1, _⟩ | ⟨_, _, hm⟩
      · omega
      · exact hm.lt
  have hA : 0 < L.length → ∀ i, i < L.length → ¬ own (g.ss j s).b ((g.ss j s).o + i) := by
    intro h0 i hi ho
    rcases a.so with ⟨h1, _⟩ | ⟨_, _, hv, _⟩
    · omega
    · have hle := hv.le
      rcases a.kl h0 with e | ⟨e, e2, e3⟩
      · simp only [KL] at e
        rcases hown _ _ (hb h0) ho with ⟨h1, _⟩ | ⟨h1, _⟩ | ⟨h1, _⟩ | h1 | h1 | ⟨h2, h1⟩
        · rw [h1] at e; omega
        · rw [h1] at e; omega
        · omega
        · simp only [KL] at h1; exact hne ⟨by omega, by omega⟩
        · simp only [KM] at h1; omega
        · simp only [KX] at h1; omega
      · rcases hown _ _ (hb h0) ho with ⟨h1, _⟩ | ⟨h1, _⟩ | ⟨h1, h2, h3⟩ | h1 | h1 | ⟨h2, h1⟩
        · rw [h1] at e; omega
        · rw [h1] at e; omega
        · have := e2 h2; omega
        · simp only [KL] at h1; omega
        · simp only [KM] at h1; omega
        · simp only [KX] at h1; omega
  have hB : 8 < L.length → ∀ o, ¬ own (g.ss j s).mb o := by
    intro h8 o ho
    have e := a.km h8
    simp only [KM] at e
    rcases hown _ _ (hmb h8) ho with ⟨h1, _⟩ | ⟨h1, _⟩ | ⟨h1, _⟩ | h1 | h1 | ⟨h2, h1⟩
    · rw [h1] at e; omega
    · rw [h1] at e; omega
    · omega
    · simp only [KL] at h1; omega
    · simp only [KM] at h1; exact hne ⟨by omega, by omega⟩
    · simp only [KX] at h1; omega
  refine ⟨by rw [hss]; exact a.so.kc k hA hB, fun h0 => ?_, fun h8 => ?_⟩
  · rw [hss, hkd _ (hb h0)]
    rcases a.kl h0 with e | ⟨e, e2, e3⟩
    · exact .inl e
    · refine .inr ⟨e, fun hbl => ?_, e3⟩
      have := hb h0
      rcases al with ⟨h1, h2⟩ | h1
      · have := e2 (hbl.trans h1); omega
      · omega
  · rw [hss, hkd _ (hmb h8)]
    exact a.km h8

theorem CatB.added {w w' : World} {g : Gh} (h : CatB w g) (j0 s0 : Nat) (hj0 : j0 < g.ks.length) (hs0 : s0 < 3) {own : Nat → Nat → Prop} (k : KC own w w') (hown : ∀ b o, b < w.heap.size → own b o → Own2 g j0 s0 b o)
    (φ : Fn) (hφ : FnOK w g φ) (hkey : g.key j0 = (φ.m, φ.n)) (hsφ : φ.s = s0) (hnew : ∀ ψ ∈ g.fs, ¬ (ψ.s = φ.s ∧ ψ.m = φ.m ∧ ψ.n = φ.n ∧ ψ.li = φ.li))
    (g' : Gh) (hg : g' = { g with fs := g.fs ++ [φ], ss := g'.ss, xm := g'.xm, fl := g'.fl, kd := g'.kd }) (hss : ∀ j s, ¬ (j = j0 ∧ s = s0) → g'.ss j s = g.ss j s) (hxm : ∀ j, ¬ (j = j0 ∧ s0 = 2) → g'.xm j = g.xm j)
    (hkd : ∀ b, b < w.heap.size → g'.kd b = g.kd b) (hbe : ∀ b, w'.heap.size ≤ b → g'.kd b = 0) (al : Adv w g.fl g'.fl) (Fl : Free w' g.cb 10 57 1 g'.fl.b g'.fl.o g'.fl.len) (kfl : 0 < g'.fl.len → g'.kd g'.fl.b = 6)
    (h01 : s0 < 2 → ∃ lv mv, w'.cell? ⟨(g.ov j0).1, (g.ov j0).2 + (1 + 2 * s0), none⟩ = some lv ∧ w'.cell? ⟨(g.ov j0).1, (g.ov j0).2 + (1 + 2 * s0) + 1, none⟩ = some mv ∧ SoAt w' g' (g.gr j0 s0 ++ [φ]) j0 s0 lv mv)
    (h2 : s0 = 2 → w'.cell? ⟨(g.ov j0).1, (g.ov j0).2 + 5, none⟩ = some (.map (some (g'.xm j0))) ∧ g'.kd (g'.xm j0) = KX j0 ∧ ∃ lv mv, MapE w' (g'.xm j0) [(.string (scN 2), .agg #[lv, mv])] ∧ SoAt w' g' (g.gr j0 2 ++ [φ]) j0 2 lv mv) :
    CatB w' g' := by
  have k5 := (h.ovs j0 hj0).kb
  have k1 := h.kcb
  have ltcb := h.scb.lt
  have lttm := h.mt.lt
  have lty : ∀ i, i < 7 → g.ty i < w.heap.size := fun i hi => by have := block_lt_of_cell (h.tys i hi); simpa using this
  have in0 : ∀ x : Nat, g.kd x ≠ 0 → x < w.heap.size := fun x hx => Nat.lt_of_not_le fun hle => hx (h.beyond x hle)
  have lfm : g.fm < w.heap.size := in0 _ (by rw [h.kfm]; decide)
  have lsm : g.sm < w.heap.size := in0 _ (by rw [h.ksm]; decide)
  have no : ∀ b o, b < w.heap.size → own b o → (g.kd b = 5 ∧ b = (g.ov j0).1 ∧ ((s0 < 2 ∧ (o = (g.ov j0).2 + (1 + 2 * s0) ∨ o = (g.ov j0).2 + (1 + 2 * s0) + 1)) ∨ (s0 = 2 ∧ o = (g.ov j0).2 + 5))) ∨ (g.kd b = 1 ∧ o = 10) ∨ (g.kd b = 6) ∨ 10 ≤ g.kd b := fun b o hb ho => by
    rcases hown b o hb ho with ⟨h1, h2⟩ | ⟨h1, h2⟩ | ⟨h1, _⟩ | h1 | h1 | ⟨_, h1⟩
    · exact .inl ⟨by rw [h1]; exact k5, h1, h2⟩
    · exact .inr (.inl ⟨by rw [h1]; exact k1, h2⟩)
    · exact .inr (.inr (.inl h1))
    · simp only [KL] at h1; exact .inr (.inr (.inr (by omega)))
    · simp only [KM] at h1; exact .inr (.inr (.inr (by omega)))
    · simp only [KX] at h1; exact .inr (.inr (.inr (by omega)))
  have ecb : g'.cb = g.cb := by rw [hg]
  have etm : g'.tm = g.tm := by rw [hg]
  have efm : g'.fm = g.fm := by rw [hg]
  have esm : g'.sm = g.sm := by rw [hg]
  have ety : g'.ty = g.ty := by rw [hg]
  have efs : g'.fs = g.fs ++ [φ] := by rw [hg]
  have eks : g'.ks = g.ks := by rw [hg]
  have eov : g'.ov = g.ov := by rw [hg]
  have eff : g'.ff = g.ff := by rw [hg]
  have efa : g'.fa = g.fa := by rw [hg]
  have efo : g'.fo = g.fo := by rw [hg]
  have ekey : ∀ i, g'.key i = g.key i := fun i => by unfold Gh.key; rw [eks]
  have egr : ∀ i s, i < g.ks.length → ¬ (i = j0 ∧ s = s0) → g'.gr i s = g.gr i s := fun i s hi hne => by
    unfold Gh.gr
    rw [efs, ekey, grp_snoc, if_neg, List.append_nil]
    rintro ⟨e1, e2, e3⟩
    refine hne ⟨h.kdis i j0 hi hj0 ?_, by omega⟩
    rw [hkey, e1, e2]
  have egr0 : g'.gr j0 s0 = g.gr j0 s0 ++ [φ] := by
    unfold Gh.gr
    rw [efs, ekey, grp_snoc, if_pos ⟨by rw [hkey], by rw [hkey], hsφ⟩]
  have fnk : ∀ ψ, FnOK w g ψ → FnOK w' g' ψ := fun ψ f => by
    have lb : ψ.b < w.heap.size := in0 _ (by rw [f.kb]; decide)
    have la : 0 < ψ.n → ψ.ab < w.heap.size := fun hn => in0 _ (by rw [f.ka hn]; decide)
    refine ⟨fun i v hi => k.cell _ _ _ (fun ho => ?_) (f.cells i v (by rw [ety] at hi; exact hi)), fun i hi => ?_, (hkd _ lb).trans f.kb, fun hn => (hkd _ (la hn)).trans (f.ka hn), by rw [eff]; exact f.lb, by rw [efa]; exact f.la, f.bd⟩
    · have e := f.kb
      rcases no _ _ lb ho with ⟨h1, _⟩ | ⟨h1, _⟩ | h1 | h1 <;> omega
    · rw [ety]
      refine k.cell _ _ _ (fun ho => ?_) (f.args i hi)
      have hn : 0 < ψ.n := by omega
      have e := f.ka hn
      rcases no _ _ (la hn) ho with ⟨h1, _⟩ | ⟨h1, _⟩ | h1 | h1 <;> omega
  have nocb : ∀ q, q ≠ 10 → ¬ own g.cb q := fun q hq ho => by
    rcases no _ _ ltcb ho with ⟨h1, _⟩ | ⟨h1, h2⟩ | h1 | h1 <;> omega
  refine ⟨hbe, by rw [ecb]; exact (hkd _ ltcb).trans h.kcb, by rw [etm]; exact (hkd _ lttm).trans h.ktm, by rw [efm]; exact (hkd _ lfm).trans h.kfm, by rw [esm]; exact (hkd _ lsm).trans h.ksm, fun i hi => by rw [ety]; exact (hkd _ (lty i hi)).trans (h.kty i hi), by rw [ecb]; exact k.shape _ _ _ h.scb, ?_, ?_, ?_, ?_, ?_, by rw [eov, eks]; exact h.ovd, ?_, ?_, ?_, ?_, ?_, ?_, ?_, by rw [ecb]; exact Fl, ?_, ?_, ?_, kfl, ?_⟩
  · rw [ecb, etm]
    exact k.cell _ _ _ (nocb 0 (by omega)) h.c0
  · intro i hi
    rw [ety]
    refine k.cell _ _ _ (fun ho => ?_) (h.tys i hi)
    have e := h.kty i hi
    rcases no _ _ (lty i hi) ho with ⟨h1, _⟩ | ⟨h1, _⟩ | h1 | h1 <;> omega
  · rw [etm, ety]
    refine h.mt.kc k (fun o ho => ?_)
    have e := h.ktm
    rcases no _ _ lttm ho with ⟨h1, _⟩ | ⟨h1, _⟩ | h1 | h1 <;> omega
  · intro ψ hψ
    rw [efs] at hψ
    rcases List.mem_append.1 hψ with hψ | hψ
    · exact fnk ψ (h.fns ψ hψ)
    · simp only [List.mem_singleton] at hψ
      subst hψ
      exact fnk _ hφ
  · intro i hi
    rw [eks] at hi
    have q := h.ovs i hi
    have lb := q.sh.lt
    have cellk : ∀ y v, y < 6 → (i = j0 → ¬ ((s0 < 2 ∧ (y = 1 + 2 * s0 ∨ y = 1 + 2 * s0 + 1)) ∨ (s0 = 2 ∧ y = 5))) → w.cell? ⟨(g.ov i).1, (g.ov i).2 + y, none⟩ = some v → w'.cell? ⟨(g.ov i).1, (g.ov i).2 + y, none⟩ = some v := fun y v hy hn hc => by
      refine k.cell _ _ _ (fun ho => ?_) hc
      have e := q.kb
      rcases no _ _ lb ho with ⟨h1, h2, h3⟩ | ⟨h1, _⟩ | h1 | h1
      · by_cases hij : i = j0
        · subst hij
          refine hn rfl ?_
          rcases h3 with ⟨h4, h5⟩ | ⟨h4, h5⟩
          · exact .inl ⟨h4, by omega⟩
          · exact .inr ⟨h4, by omega⟩
        · rcases h.ovd i j0 hi hj0 hij with h4 | h4 | h4
          · exact h4 h2
          · omega
          · omega
      · omega
      · omega
      · omega
    refine ⟨by rw [eov]; exact k.shape _ _ _ q.sh, by rw [eov]; exact (hkd _ lb).trans q.kb, by rw [eov, efo]; exact q.lb, fun s hs => ?_, ?_⟩
    · rw [eov]
      by_cases hjs : i = j0 ∧ s = s0
      · obtain ⟨rfl, rfl⟩ := hjs
        rw [egr0]
        exact h01 hs
      · rw [egr i s hi hjs]
        obtain ⟨lv, mv, c1, c2, a⟩ := q.s01 s hs
        refine ⟨lv, mv, cellk _ _ (by omega) (fun e => ?_) c1, ?_, a.frame2 h hj0 hs0 k hown hkd al (by omega) hjs (hss i s hjs)⟩
        · rintro (⟨h4, h5⟩ | ⟨h4, h5⟩)
          · exact hjs ⟨e, by omega⟩
          · omega
        · rw [Nat.add_assoc] at c2 ⊢
          refine cellk _ _ (by omega) (fun e => ?_) c2
          rintro (⟨h4, h5⟩ | ⟨h4, h5⟩)
          · exact hjs ⟨e, by omega⟩
          · omega
    · rw [eov]
      by_cases hjs : i = j0 ∧ 2 = s0
      · obtain ⟨rfl, rfl⟩ := hjs
        rw [egr0]
        obtain ⟨c, kx, r⟩ := h2 rfl
        exact .inr ⟨by simp, c, kx, r⟩
      · rw [egr i 2 hi hjs]
        rcases q.s2 with ⟨e, c⟩ | ⟨e, c, kx, lv, mv, hm, a⟩
        · refine .inl ⟨e, cellk 5 _ (by omega) (fun e => ?_) c⟩
          rintro (⟨h4, h5⟩ | ⟨h4, h5⟩)
          · omega
          · exact hjs ⟨e, h4.symm⟩
        · have hx : g'.xm i = g.xm i := hxm i (fun e => hjs ⟨e.1, e.2.symm⟩)
          rw [hx]
          refine .inr ⟨e, cellk 5 _ (by omega) (fun e => ?_) c, (hkd _ hm.lt).trans kx, lv, mv, hm.kc k (fun o ho => ?_), a.frame2 h hj0 hs0 k hown hkd al (by omega) hjs (hss i 2 hjs)⟩
          · rintro (⟨h4, h5⟩ | ⟨h4, h5⟩)
            · omega
            · exact hjs ⟨e, h4.symm⟩
          · simp only [KX] at kx
            rcases hown _ _ hm.lt ho with ⟨h1, _⟩ | ⟨h1, _⟩ | ⟨h1, _⟩ | h1 | h1 | ⟨h3, h1⟩
            · rw [h1] at kx; omega
            · rw [h1] at kx; omega
            · omega
            · simp only [KL] at h1; omega
            · simp only [KM] at h1; omega
            · simp only [KX] at h1; exact hjs ⟨by omega, h3.symm⟩
  · intro a b ha hb e
    rw [eks] at ha hb
    rw [ekey, ekey] at e
    exact h.kdis a b ha hb e
  · intro ψ hψ
    rw [efs] at hψ
    rw [eks]
    rcases List.mem_append.1 hψ with hψ | hψ
    · obtain ⟨i, hi, e⟩ := h.kin ψ hψ
      exact ⟨i, hi, by rw [ekey]; exact e⟩
    · simp only [List.mem_singleton] at hψ
      subst hψ
      exact ⟨j0, hj0, by rw [ekey]; exact hkey⟩
  · intro i hi
    rw [eks] at hi
    rw [ekey]
    exact h.kbd i hi
  · rw [efs, List.pairwise_append]
    refine ⟨h.nodup, by simp, fun ψ hψ χ hχ => ?_⟩
    simp only [List.mem_singleton] at hχ
    subst hχ
    exact hnew ψ hψ
  · rw [ecb, eff]; exact h.Ff.kc k (nocb 7 (by omega))
  · rw [ecb, efa]; exact h.Fa.kc k (nocb 8 (by omega))
  · rw [ecb, efo]; exact h.Fo.kc k (nocb 9 (by omega))
  · intro hl; rw [eff] at hl ⊢; exact (hkd _ (in0 _ (by rw [h.kff hl]; decide))).trans (h.kff hl)
  · intro hl; rw [efa] at hl ⊢; exact (hkd _ (in0 _ (by rw [h.kfa hl]; decide))).trans (h.kfa hl)
  · intro hl; rw [efo] at hl ⊢; exact (hkd _ (in0 _ (by rw [h.kfo hl]; decide))).trans (h.kfo hl)
  · intro i hi
    rw [efo] at hi ⊢
    have h0 : 0 < g.fo.len := by omega
    have e := h.kfo h0
    have hz := h.fz i hi
    have hoz : ∃ v, oz[i % 6]? = some v := by
      have : i % 6 < oz.size := by show i % 6 < 6; omega
      exact ⟨_, Array.getElem?_eq_getElem this⟩
    obtain ⟨v, hv⟩ := hoz
    rw [hv] at hz ⊢
    refine k.cell _ _ _ (fun ho => ?_) hz
    rcases no _ _ (in0 _ (by rw [e]; decide)) ho with ⟨h1, h2, h3⟩ | ⟨h1, _⟩ | h1 | h1
    · have := (h.ovs j0 hj0).lb h2.symm
      rcases h3 with ⟨h4, h5⟩ | ⟨h4, h5⟩ <;> omega
    · omega
    · omega
    · omega
end Go.Proofs.YbulkzmgFmt.Sc
