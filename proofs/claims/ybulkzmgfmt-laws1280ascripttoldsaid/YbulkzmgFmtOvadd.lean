import Derived.Test.YbulkzmgFmtCat2
namespace Go.Proofs.YbulkzmgFmt.Sc
open Go.RowKit Go.Extern.Stop Go.Stop Go.Extern
set_option linter.unusedVariables false

theorem scN_size (s : Nat) : (scN s).size ≤ 10 := by
  unfold scN
  repeat' split
  all_goals decide
theorem nmN_size (m : Nat) : (nmN m).size ≤ 2 := by
  unfold nmN
  repeat' split
  all_goals decide

theorem FnOK.hasL {w : World} {g : Gh} {φ : Fn} (h : FnOK w g φ) : HasL w φ.ad φ.li := by
  refine ⟨φ.b, φ.o, scN φ.s, nmN φ.m, rfl, ?_, h.cells 1 _ rfl, h.cells 4 _ rfl, ?_⟩
  · have := h.cells 0 _ rfl; simpa using this
  · have h1 := scN_size φ.s
    have h2 := nmN_size φ.m
    have h3 := jn_size φ.ka φ.n
    have h4 := h.bd.2.2.1
    unfold Fn.li
    omega

theorem CatB.nob {w w' : World} {g : Gh} (h : CatB w g) (k : KC nob w w') : CatB w' g :=
  h.frame k (fun b o _ ho => ho.elim) g.ff g.fa g.fo g.fl g.kd (fun _ _ => rfl) (fun b hb => h.beyond b (Nat.le_trans k.size hb)) (.inl ⟨rfl, Nat.le_refl _⟩) (.inl ⟨rfl, Nat.le_refl _⟩) (.inl ⟨rfl, Nat.le_refl _⟩) (.inl ⟨rfl, Nat.le_refl _⟩)
    (h.Ff.kc k id) (h.Fa.kc k id) (h.Fo.kc k id) (h.Fl.kc k id) h.kff h.kfa h.kfo h.kfl (fun i hi => by
      have hz := h.fz i hi
      have : i % 6 < oz.size := by show i % 6 < 6; omega
      rw [Array.getElem?_eq_getElem this] at hz ⊢
      exact k.cell _ _ _ id hz)
theorem FnOK.nob {w w' : World} {g : Gh} {φ : Fn} (h : FnOK w g φ) (k : KC nob w w') : FnOK w' g φ :=
  ⟨fun j v hj => k.cell _ _ _ id (h.cells j v hj), fun j hj => k.cell _ _ _ id (h.args j hj), h.kb, h.ka, h.lb, h.la, h.bd⟩

theorem mem_gr {g : Gh} {j s i : Nat} (hi : i < (g.gr j s).length) : (g.gr j s).getD i fn0 ∈ g.fs ∧ ((g.gr j s).getD i fn0).m = (g.key j).1 ∧ ((g.gr j s).getD i fn0).n = (g.key j).2 ∧ ((g.gr j s).getD i fn0).s = s := by
  have e : (g.gr j s).getD i fn0 = (g.gr j s)[i] := by simp [List.getD, hi]
  rw [e]
  have hm : (g.gr j s)[i] ∈ g.gr j s := List.getElem_mem hi
  unfold Gh.gr grp at hm ⊢
  have := List.mem_filter.1 hm
  exact ⟨this.1, by simpa using this.2⟩

theorem getD_snoc {L : List Fn} {φ : Fn} {i : Nat} (hi : i < L.length + 1) : (L ++ [φ]).getD i fn0 = if i = L.length then φ else L.getD i fn0 := by
  by_cases h : i = L.length
  · subst h; simp
  · rw [if_neg h]
    have : i < L.length := by omega
    simp [List.getElem?_append_left this]

theorem lif_inj {w : World} {g : Gh} (h : CatB w g) {j s i i' : Nat} (hi : i < (g.gr j s).length) (hi' : i' < (g.gr j s).length) (e : lif (g.gr j s) i = lif (g.gr j s) i') : i = i' := by
  have hp : (g.gr j s).Pairwise (fun φ ψ => ¬ (φ.s = ψ.s ∧ φ.m = ψ.m ∧ φ.n = ψ.n ∧ φ.li = ψ.li)) := h.nodup.sublist List.filter_sublist
  have key : ∀ a b (ha : a < (g.gr j s).length) (hb : b < (g.gr j s).length), a < b → lif (g.gr j s) a ≠ lif (g.gr j s) b := fun a b ha hb hab e => by
    have := (List.pairwise_iff_getElem.1 hp) a b ha hb hab
    refine this ?_
    obtain ⟨_, m1, n1, s1⟩ := mem_gr ha
    obtain ⟨_, m2, n2, s2⟩ := mem_gr hb
    have ea : (g.gr j s).getD a fn0 = (g.gr j s)[a] := by simp [List.getD, ha]
    have eb : (g.gr j s).getD b fn0 = (g.gr j s)[b] := by simp [List.getD, hb]
    unfold lif at e
    rw [ea] at m1 n1 s1 e
    rw [eb] at m2 n2 s2 e
    exact ⟨s1.trans s2.symm, m1.trans m2.symm, n1.trans n2.symm, e⟩
  rcases Nat.lt_trichotomy i i' with h1 | h1 | h1
  · exact absurd e (key i i' hi hi' h1)
  · exact h1
  · exact absurd e.symm (key i' i hi' hi h1)

/-- An add to the schemaOverloads (j, s), wherever its two cells lie. -/
theorem soadd {w : World} {g : Gh} (h : CatB w g) (j s : Nat) (hj : j < g.ks.length) (hs : s < 3) (φ : Fn) (hφ : FnOK w g φ) (hkey : g.key j = (φ.m, φ.n)) (hsφ : φ.s = s) (hfs : g.fs.length ≤ 255) (sb so t N : Nat) (hsb : Sh w sb t N) (lv mv : Value) (c0 : w.cell? ⟨sb, so, none⟩ = some lv) (c1 : w.cell? ⟨sb, so + 1, none⟩ = some mv)
    (a : SoAt w g (g.gr j s) j s lv mv) (hsk : g.kd sb = 5 ∨ g.kd sb = 0) :
    Calls Ybaf.prog 29 #[.pointer (some ⟨sb, so, none⟩), .pointer (some φ.ad), .pointer (some ⟨g.cb, 10, none⟩)] w fun e w' =>
      ((∃ ψ ∈ g.fs, ψ.s = φ.s ∧ ψ.m = φ.m ∧ ψ.n = φ.n ∧ ψ.li = φ.li) ∧ e = .returned (.bool false) ∧ KC nob w w') ∨
      ((∀ ψ ∈ g.fs, ¬ (ψ.s = φ.s ∧ ψ.m = φ.m ∧ ψ.n = φ.n ∧ ψ.li = φ.li)) ∧ e = .returned (.bool true) ∧ ∃ (lv' mv' : Value) (S' : SS) (fl' : Fr) (kd' : Nat → Nat),
        KC (fun x y => (x = sb ∧ (y = so ∨ y = so + 1)) ∨ (x = g.cb ∧ y = 10) ∨ (g.kd x = 6 ∧ x = g.fl.b ∧ g.fl.o ≤ y) ∨ g.kd x = KL j s ∨ g.kd x = KM j s) w w' ∧ w'.cell? ⟨sb, so, none⟩ = some lv' ∧ w'.cell? ⟨sb, so + 1, none⟩ = some mv' ∧
        (∀ x, x < w.heap.size → kd' x = g.kd x) ∧ (∀ x, w'.heap.size ≤ x → kd' x = 0) ∧ Adv w g.fl fl' ∧ Free w' g.cb 10 57 1 fl'.b fl'.o fl'.len ∧ (0 < fl'.len → kd' fl'.b = 6 ∧ fl'.b < w'.heap.size) ∧
        ∀ g' : Gh, g'.ss j s = S' → (∀ x, x < w'.heap.size → g'.kd x = kd' x) → g'.fl = fl' → SoAt w' g' (g.gr j s ++ [φ]) j s lv' mv') := by
  have in0 : ∀ x : Nat, g.kd x ≠ 0 → x < w.heap.size := fun x hx => Nat.lt_of_not_le fun hle => hx (h.beyond x hle)
  have k1 := h.kcb
  have ltcb := h.scb.lt
  have ltsb := hsb.lt
  have hlen : (g.gr j s).length ≤ 255 := Nat.le_trans (List.length_filter_le _ _) hfs
  have hfn : ∀ i, i < (g.gr j s).length → FnOK w g ((g.gr j s).getD i fn0) := fun i hi => h.fns _ (mem_gr hi).1
  have hdup : (∃ i, i < (g.gr j s).length ∧ lif (g.gr j s) i = φ.li) ↔ ∃ ψ ∈ g.fs, ψ.s = φ.s ∧ ψ.m = φ.m ∧ ψ.n = φ.n ∧ ψ.li = φ.li := by
    constructor
    · rintro ⟨i, hi, e⟩
      obtain ⟨h1, h2, h3, h4⟩ := mem_gr hi
      exact ⟨_, h1, by rw [h4, hsφ], by rw [h2, hkey], by rw [h3, hkey], e⟩
    · rintro ⟨ψ, hψ, h1, h2, h3, h4⟩
      have hm : ψ ∈ g.gr j s := by
        unfold Gh.gr grp
        rw [hkey]
        exact List.mem_filter.2 ⟨hψ, by simp [h2, h3, h1, hsφ]⟩
      obtain ⟨i, hi, e⟩ := List.getElem_of_mem hm
      exact ⟨i, hi, by unfold lif; simp [List.getD, hi, e, h4]⟩
  -- the free list cells, their block a harmless one where there are none
  obtain ⟨fb, hfb⟩ : ∃ fb, fb = if g.fl.len = 0 then w.heap.size else g.fl.b := ⟨_, rfl⟩
  have hF : Free w g.cb 10 57 1 fb g.fl.o g.fl.len := by
    obtain ⟨h1, fa, h2, h3⟩ := h.Fl
    refine ⟨h1, fa, h2, fun h0 => ?_⟩
    rw [hfb, if_neg (by omega)]
    exact h3 h0
  have hfbk : fb = w.heap.size ∨ (fb = g.fl.b ∧ g.kd fb = 6 ∧ 0 < g.fl.len) := by
    by_cases h0 : g.fl.len = 0
    · exact .inl (by rw [hfb, if_pos h0])
    · rw [if_neg h0] at hfb
      exact .inr ⟨hfb, by rw [hfb]; exact h.kfl (by omega), by omega⟩
  have kne : ∀ {x y : Nat}, g.kd x ≠ g.kd y → x ≠ y := fun hxy e => hxy (by rw [e])
  have hSb : 0 < (g.gr j s).length → g.kd (g.ss j s).b = 6 ∨ 10 ≤ g.kd (g.ss j s).b := fun h0 => by
    rcases a.kl h0 with e | ⟨e, _⟩
    · simp only [KL] at e; exact .inr (by omega)
    · exact .inl e
  have hfnk : ∀ ψ, FnOK w g ψ → ψ.b ≠ sb ∧ (0 < (g.gr j s).length → ψ.b ≠ (g.ss j s).b) := fun ψ f => by
    have e := f.kb
    exact ⟨kne (by rcases hsk with h5 | h5 <;> omega), fun h0 => kne (by rcases hSb h0 with h5 | h5 <;> omega)⟩
  refine (add29 sb so t N g.cb (g.gr j s).length (adf (g.gr j s)) (lif (g.gr j s)) (g.ss j s) lv mv φ.ad φ.li fb g.fl.o g.fl.len w c0 c1 hsb hφ.hasL a.so (fun i hi => (hfn i hi).hasL) hlen (fun i i' hi hi' e => lif_inj h hi hi' e) h.scb hF
    (kne (by rcases hsk with h5 | h5 <;> omega)) (by rcases hfbk with e | ⟨_, e, _⟩; omega; exact kne (by rcases hsk with h5 | h5 <;> omega)) (by rcases hfbk with e | ⟨_, e, _⟩; omega; exact kne (by omega))
    (fun h0 => ⟨kne (by rcases hSb h0 with h5 | h5 <;> rcases hsk with h6 | h6 <;> omega), kne (by rcases hSb h0 with h5 | h5 <;> omega)⟩)
    (fun h8 => by
      have e := a.km h8
      have h0 : 0 < (g.gr j s).length := by omega
      have e0 := a.kl h0
      simp only [KM] at e
      simp only [KL] at e0
      refine ⟨kne (by rcases hsk with h6 | h6 <;> omega), kne ?_, kne (by omega)⟩
      rcases e0 with e0 | ⟨e0, _⟩ <;> omega)
    (hfnk φ hφ) (fun i hi => ⟨(hfnk _ (hfn i hi)).1, (hfnk _ (hfn i hi)).2 (by omega)⟩)).mono ?_
  rintro e w' (⟨hd, he, hk⟩ | ⟨hd, he, lv', mv', S', fb', fo', len', A⟩)
  · exact .inl ⟨hdup.1 hd, he, hk⟩
  · refine .inr ⟨fun ψ hψ hsame => ?_, he, lv', mv', S', (if (g.gr j s).length = 0 then ⟨fb', fo', len'⟩ else g.fl), (fun x => if w.heap.size ≤ x ∧ x = S'.b then (if (g.gr j s).length = 0 then 6 else KL j s) else if w.heap.size ≤ x ∧ (g.gr j s).length = 8 ∧ x = S'.mb then KM j s else g.kd x), A.kc.mono ?_, A.c0, A.c1, ?_, ?_, ?_, ?_, ?_, ?_⟩
    · obtain ⟨i, hi, hie⟩ := hdup.2 ⟨ψ, hψ, hsame⟩
      exact hd i hi hie
    · intro x y hx hown
      rcases hown with h1 | h1 | ⟨h1, h2⟩ | ⟨h1, h2⟩
      · exact .inl h1
      · exact .inr (.inl h1)
      · rcases A.whereb with ⟨q0, q1, q2, q3, _⟩ | ⟨q0, q1, _⟩ | ⟨q0, q1, q2, q3, q4⟩
        · rw [q1] at h1
          rcases a.kl q0 with e | ⟨_, _, e⟩
          · exact .inr (.inr (.inr (.inl (by rw [h1]; exact e))))
          · omega
        · omega
        · rcases q4 with ⟨q5, q6, q7⟩ | ⟨q5, _⟩
          · rcases hfbk with e | ⟨e, e2, e3⟩
            · omega
            · exact .inr (.inr (.inl ⟨by rw [h1, q5]; exact e2, by rw [h1, q5, e], by omega⟩))
          · omega
      · exact .inr (.inr (.inr (.inr (by rw [h2]; exact a.km h1))))
    · intro x hx
      simp only
      rw [if_neg (by omega), if_neg (by omega)]
    · intro x hx
      have hkz := A.kc.size
      have hb : S'.b < w'.heap.size := by
        rcases A.so with ⟨h1, _⟩ | ⟨_, _, hv, _⟩
        · omega
        · have := block_lt_of_cell (hv.cell 0 (by omega)); simpa using this
      simp only
      rw [if_neg (by omega), if_neg ?_]
      · exact h.beyond x (by omega)
      · rintro ⟨q1, q2, q3⟩
        rcases A.wherem (by omega) with ⟨q4, _⟩ | ⟨_, _, q5⟩ <;> omega
    · by_cases h0 : (g.gr j s).length = 0
      · rw [if_pos h0]
        rcases A.whereb with ⟨q0, _⟩ | ⟨q0, _⟩ | ⟨q0, q1, q2, q3, q4⟩
        · omega
        · omega
        · rcases q4 with ⟨q5, q6, q7⟩ | ⟨q5, _⟩
          · rcases hfbk with e | ⟨e, e2, e3⟩
            · exact .inr (by show w.heap.size ≤ fb'; omega)
            · exact .inl ⟨by show fb' = g.fl.b; rw [q1, q5, e], by show g.fl.o ≤ fo'; omega⟩
          · exact .inr (by show w.heap.size ≤ fb'; omega)
      · rw [if_neg h0]
        exact .inl ⟨rfl, Nat.le_refl _⟩
    · by_cases h0 : (g.gr j s).length = 0
      · rw [if_pos h0]
        exact A.free
      · rw [if_neg h0]
        have hf := A.free
        rcases A.whereb with ⟨_, _, _, _, q1, q2, q3⟩ | ⟨_, _, _, _, q1, q2, q3⟩ | ⟨q0, _⟩
        · rw [q1, q2, q3] at hf
          obtain ⟨z1, z2, z3, z4⟩ := hf
          refine ⟨z1, z2, z3, fun hl => ?_⟩
          have := z4 hl
          rw [hfb, if_neg (by omega)] at this
          exact this
        · rw [q1, q2, q3] at hf
          obtain ⟨z1, z2, z3, z4⟩ := hf
          refine ⟨z1, z2, z3, fun hl => ?_⟩
          have := z4 hl
          rw [hfb, if_neg (by omega)] at this
          exact this
        · omega
    · by_cases h0 : (g.gr j s).length = 0
      · rw [if_pos h0]
        intro hl
        have hbl := (A.free.2.choose_spec.2 hl).2.1.lt
        refine ⟨?_, hbl⟩
        simp only
        rcases A.whereb with ⟨q0, _⟩ | ⟨q0, _⟩ | ⟨q0, q1, q2, q3, q4⟩
        · omega
        · omega
        · by_cases hge : w.heap.size ≤ fb'
          · rw [if_pos ⟨hge, q1⟩, if_pos h0]
          · rw [if_neg (by omega), if_neg (by omega)]
            rcases q4 with ⟨q5, q6, q7⟩ | ⟨q5, _⟩
            · rcases hfbk with e | ⟨e, e2, e3⟩
              · omega
              · rw [q1, q5]; exact e2
            · omega
      · rw [if_neg h0]
        intro hl
        have hlt := in0 g.fl.b (by rw [h.kfl hl]; decide)
        refine ⟨?_, Nat.lt_of_lt_of_le hlt A.kc.size⟩
        simp only
        rw [if_neg (by omega), if_neg (by omega)]
        exact h.kfl hl
    · intro g' e1 e2 e3
      simp only at e2
      have hb : S'.b < w'.heap.size := by
        rcases A.so with ⟨h1, _⟩ | ⟨_, _, hv, _⟩
        · omega
        · have := block_lt_of_cell (hv.cell 0 (by omega)); simpa using this
      have hll : (g.gr j s ++ [φ]).length = (g.gr j s).length + 1 := by simp
      refine ⟨?_, fun _ => ?_, fun h8 => ?_⟩
      · rw [e1, hll]
        refine A.so.congr (fun i hi => ?_) (fun i hi => ?_)
        · unfold ext adf
          rw [getD_snoc hi]
          split <;> rfl
        · unfold extl lif
          rw [getD_snoc hi]
          split <;> rfl
      · rw [e1, e2 _ hb, e3]
        by_cases h0 : (g.gr j s).length = 0
        · rcases A.whereb with ⟨q0, _⟩ | ⟨q0, _⟩ | ⟨q0, q1, q2, q3, q4⟩
          · omega
          · omega
          · refine .inr ⟨?_, fun _ => ?_, q3⟩
            · by_cases hge : w.heap.size ≤ S'.b
              · rw [if_pos ⟨hge, rfl⟩, if_pos h0]
              · rw [if_neg (by omega), if_neg (by omega)]
                rcases q4 with ⟨q5, q6, q7⟩ | ⟨q5, _⟩
                · rcases hfbk with e | ⟨e, e4, e5⟩
                  · omega
                  · rw [q5]; exact e4
                · omega
            · rw [if_pos h0]
              show S'.o < fo'
              omega
        · refine .inl ?_
          by_cases hge : w.heap.size ≤ S'.b
          · rw [if_pos ⟨hge, rfl⟩, if_neg h0]
          · rw [if_neg (by omega), if_neg (by omega)]
            rcases A.whereb with ⟨q0, q1, q2, q3, _⟩ | ⟨q0, q1, _⟩ | ⟨q0, _⟩
            · rcases a.kl q0 with e | ⟨_, _, e⟩
              · rw [q1]; exact e
              · omega
            · omega
            · omega
      · rw [hll] at h8
        have hmm : ∃ mb, S'.mb = mb ∧ MapE w' S'.mb (AL (extl (lif (g.gr j s)) (g.gr j s).length φ.li) ((g.gr j s).length + 1)) := by
          rcases A.so with ⟨h1, _⟩ | ⟨_, _, hv, hm⟩
          · omega
          · rcases hm with ⟨h1, _⟩ | ⟨_, _, hm⟩
            · omega
            · exact ⟨_, rfl, hm⟩
        obtain ⟨_, _, hmE⟩ := hmm
        have hne : S'.mb ≠ S'.b := by
          intro e
          rcases A.so with ⟨h1, _⟩ | ⟨_, _, hv, hm⟩
          · omega
          · have hc := hv.cell 0 (by omega)
            obtain ⟨es, cl, hblk, _⟩ := hmE
            rw [e] at hblk
            simp [World.cell?, hblk] at hc
        rw [e1, e2 _ hmE.lt]
        rw [if_neg (fun q => hne q.2)]
        rcases A.wherem (by omega) with ⟨q1, q2⟩ | ⟨q1, q2, q3⟩
        · have := in0 (g.ss j s).mb (by rw [a.km q1]; unfold KM; omega)
          rw [if_neg (by omega), q2]
          exact a.km q1
        · rw [if_pos ⟨q2, q1, rfl⟩]
end Go.Proofs.YbulkzmgFmt.Sc
