import Derived.Test.YbulkzmgFmtCat3
namespace Go.Proofs.YbulkzmgFmt.Sc
open Go.RowKit Go.Extern.Stop Go.Stop Go.Extern
set_option linter.unusedVariables false

theorem made_oz (i : Nat) (hi : i < 256 * 6) : (madeCells oz (256 * 6))[i]? = oz[i % 6]? := by
  have h6 : i % 6 < oz.size := by show i % 6 < 6; omega
  simp only [madeCells, Array.getElem?_map]
  rw [Array.getElem?_eq_getElem (by simpa using hi)]
  simp only [Array.getElem_range, Option.map_some]
  rw [Array.getElem?_eq_getElem h6]
  have h7 : i % oz.size = i % 6 := rfl
  rw [h7]
  simp [h6]

/-- A key more, its overload empty. -/
theorem CatB.newkey {w : World} {g : Gh} (h : CatB w g) (m n ob oo : Nat) (hm : m < 2) (hn : n ≤ 100) (hno : ∀ j, j < g.ks.length → g.key j ≠ (m, n)) (hsh : Sh w ob 84 (256 * 6)) (hkb : g.kd ob = 5) (hlb : ob = g.fo.b → oo + 6 ≤ g.fo.o)
    (hz : ∀ i, 0 < i → i < 6 → w.cell? ⟨ob, oo + i, none⟩ = oz[i]?) (hd : ∀ j, j < g.ks.length → (g.ov j).1 ≠ ob ∨ (g.ov j).2 + 6 ≤ oo) :
    CatB w { g with ks := g.ks ++ [(m, n)], ov := fun i => if i = g.ks.length then (ob, oo) else g.ov i } := by
  have ekey : ∀ i, i < g.ks.length → Gh.key { g with ks := g.ks ++ [(m, n)], ov := fun i => if i = g.ks.length then (ob, oo) else g.ov i } i = g.key i := fun i hi => by
    unfold Gh.key
    show (g.ks ++ [(m, n)]).getD i (0, 0) = g.ks.getD i (0, 0)
    simp [List.getElem?_append_left hi]
  have ekeyl : Gh.key { g with ks := g.ks ++ [(m, n)], ov := fun i => if i = g.ks.length then (ob, oo) else g.ov i } g.ks.length = (m, n) := by
    unfold Gh.key
    show (g.ks ++ [(m, n)]).getD g.ks.length (0, 0) = (m, n)
    simp
  have egr : ∀ i s, i < g.ks.length → Gh.gr { g with ks := g.ks ++ [(m, n)], ov := fun i => if i = g.ks.length then (ob, oo) else g.ov i } i s = g.gr i s := fun i s hi => by
    unfold Gh.gr; rw [ekey i hi]
  have egrl : ∀ s, Gh.gr { g with ks := g.ks ++ [(m, n)], ov := fun i => if i = g.ks.length then (ob, oo) else g.ov i } g.ks.length s = [] := fun s => by
    unfold Gh.gr grp
    rw [ekeyl]
    rw [List.filter_eq_nil_iff]
    intro φ hφ hh
    obtain ⟨j, hj, e⟩ := h.kin φ hφ
    simp only [decide_eq_true_eq] at hh
    exact hno j hj (by rw [e, hh.1, hh.2.1])
  have hlen : (g.ks ++ [(m, n)]).length = g.ks.length + 1 := by simp
  refine ⟨h.beyond, h.kcb, h.ktm, h.kfm, h.ksm, h.kty, h.scb, h.c0, h.tys, h.mt, fun φ hφ => ?_, fun i hi => ?_, fun i j hi hj hne => ?_, fun i j hi hj e => ?_, fun φ hφ => ?_, fun i hi => ?_, h.nodup, h.Ff, h.Fa, h.Fo, h.Fl, h.kff, h.kfa, h.kfo, h.kfl, h.fz⟩
  · have f := h.fns φ hφ
    exact ⟨f.cells, f.args, f.kb, f.ka, f.lb, f.la, f.bd⟩
  · have hi' : i < g.ks.length + 1 := by rw [← hlen]; exact hi
    by_cases he : i = g.ks.length
    · have hov : Gh.ov { g with ks := g.ks ++ [(m, n)], ov := fun i => if i = g.ks.length then (ob, oo) else g.ov i } i = (ob, oo) := if_pos he
      refine ⟨by rw [hov]; exact hsh, by rw [hov]; exact hkb, by rw [hov]; exact hlb, fun s hs => ?_, .inl ⟨by rw [he]; exact egrl 2, by rw [hov]; exact hz 5 (by omega) (by omega)⟩⟩
      rw [hov]
      refine ⟨.slice none 0 0, .map none, ?_, ?_, ?_⟩
      · have := hz (1 + 2 * s) (by omega) (by omega)
        have hs2 : s = 0 ∨ s = 1 := by omega
        rcases hs2 with rfl | rfl <;> exact this
      · have := hz (1 + 2 * s + 1) (by omega) (by omega)
        have hs2 : s = 0 ∨ s = 1 := by omega
        rcases hs2 with rfl | rfl <;> exact this
      · rw [he, egrl s]
        exact ⟨.inl ⟨rfl, rfl, rfl⟩, fun h => absurd h (by simp), fun h => absurd h (by simp)⟩
    · have hil : i < g.ks.length := by omega
      have hov : Gh.ov { g with ks := g.ks ++ [(m, n)], ov := fun i => if i = g.ks.length then (ob, oo) else g.ov i } i = g.ov i := if_neg he
      have q := h.ovs i hil
      refine ⟨by rw [hov]; exact q.sh, by rw [hov]; exact q.kb, by rw [hov]; exact q.lb, fun s hs => ?_, ?_⟩
      · rw [hov, egr i s hil]
        obtain ⟨lv, mv, c1, c2, a⟩ := q.s01 s hs
        exact ⟨lv, mv, c1, c2, ⟨a.so, a.kl, a.km⟩⟩
      · rw [hov, egr i 2 hil]
        rcases q.s2 with ⟨e, c⟩ | ⟨e, c, kx, lv, mv, hmm, a⟩
        · exact .inl ⟨e, c⟩
        · exact .inr ⟨e, c, kx, lv, mv, hmm, ⟨a.so, a.kl, a.km⟩⟩
  · have hi' : i < g.ks.length + 1 := by rw [← hlen]; exact hi
    have hj' : j < g.ks.length + 1 := by rw [← hlen]; exact hj
    show (if i = g.ks.length then (ob, oo) else g.ov i).1 ≠ (if j = g.ks.length then (ob, oo) else g.ov j).1 ∨ (if i = g.ks.length then (ob, oo) else g.ov i).2 + 6 ≤ (if j = g.ks.length then (ob, oo) else g.ov j).2 ∨ (if j = g.ks.length then (ob, oo) else g.ov j).2 + 6 ≤ (if i = g.ks.length then (ob, oo) else g.ov i).2
    by_cases h1 : i = g.ks.length <;> by_cases h2 : j = g.ks.length
    · omega
    · rw [if_pos h1, if_neg h2]
      rcases hd j (by omega) with h3 | h3
      · exact .inl (fun e => h3 e.symm)
      · exact .inr (.inr h3)
    · rw [if_neg h1, if_pos h2]
      rcases hd i (by omega) with h3 | h3
      · exact .inl h3
      · exact .inr (.inl h3)
    · rw [if_neg h1, if_neg h2]
      exact h.ovd i j (by omega) (by omega) hne
  · have hi' : i < g.ks.length + 1 := by rw [← hlen]; exact hi
    have hj' : j < g.ks.length + 1 := by rw [← hlen]; exact hj
    by_cases h1 : i = g.ks.length <;> by_cases h2 : j = g.ks.length
    · omega
    · rw [h1, ekeyl, ekey j (by omega)] at e; exact absurd e.symm (hno j (by omega))
    · rw [h2, ekeyl, ekey i (by omega)] at e; exact absurd e (hno i (by omega))
    · rw [ekey i (by omega), ekey j (by omega)] at e; exact h.kdis i j (by omega) (by omega) e
  · obtain ⟨j, hj, e⟩ := h.kin φ hφ
    exact ⟨j, by rw [hlen]; omega, by rw [ekey j hj]; exact e⟩
  · have hi' : i < g.ks.length + 1 := by rw [← hlen]; exact hi
    by_cases h1 : i = g.ks.length
    · rw [h1, ekeyl]; exact ⟨hm, hn⟩
    · rw [ekey i (by omega)]; exact h.kbd i (by omega)

/-- After overloadsChunks.new and the store of its index. -/
theorem CatB.newov {w w6 : World} {g : Gh} (h : CatB w g) (m n : Nat) (hm : m < 2) (hn : n ≤ 100) (hno : ∀ j, j < g.ks.length → g.key j ≠ (m, n)) {ob oo L : Nat} {fa : Option Addr} (k : KC (fun x y => x = g.cb ∧ y = 9) w w6) (c : w6.cell? ⟨g.cb, 9, none⟩ = some (.slice fa L L)) (hL : 0 < L → fa = some ⟨ob, oo + 1 * 6, none⟩) (hs : Sh w6 ob 84 (256 * 6)) (e : oo + (1 + L) * 6 = 256 * 6)
    (hw : (ob = g.fo.b ∧ oo = g.fo.o ∧ L + 1 = g.fo.len ∧ w6.heap.size = w.heap.size) ∨ (ob = w.heap.size ∧ oo = 0 ∧ w6.heap.size = w.heap.size + 1 ∧ g.fo.len < 1 ∧ ∀ j, w6.cell? ⟨ob, j, none⟩ = (madeCells oz (256 * 6))[j]?)) (v : Value) :
    ∃ g', CatB (w6.setCell ⟨ob, oo, none⟩ v) g' ∧ g' = { g with fo := g'.fo, kd := g'.kd, ks := g.ks ++ [(m, n)], ov := g'.ov } ∧ Ext w g g' ∧ g'.ov g.ks.length = (ob, oo) ∧ (∀ i, i < g.ks.length → g'.ov i = g.ov i) ∧ KC (fun x y => (x = g.cb ∧ y = 9) ∨ (x = ob ∧ y = oo)) w (w6.setCell ⟨ob, oo, none⟩ v) ∧ (g.kd ob = 5 ∨ w.heap.size ≤ ob) := by
  have hkp : g.kd ob = 5 ∨ (g.kd ob = 0 ∧ w.heap.size ≤ ob) := by
    rcases hw with ⟨h1, h2, h3, _⟩ | ⟨h1, h2, _⟩
    · exact .inl (by rw [h1]; exact h.kfo (by omega))
    · exact .inr ⟨h.beyond _ (by omega), by omega⟩
  have hk1 := h.kcb
  have hne : ob ≠ g.cb := fun e => by rw [e] at hkp; rcases hkp with h2 | ⟨h2, _⟩ <;> omega
  have kW : KC (fun x y => (x = g.cb ∧ y = 9) ∨ (x = ob ∧ y = oo)) w (w6.setCell ⟨ob, oo, none⟩ v) := (k.mono fun x y _ hh => .inl hh).set (.inr ⟨rfl, rfl⟩) v
  have no : ∀ q, q ≠ 9 → ¬ ((g.cb = g.cb ∧ q = 9) ∨ (g.cb = ob ∧ q = oo)) := fun q hq hh => by
    rcases hh with h1 | ⟨h1, _⟩
    · exact hq h1.2
    · exact hne h1.symm
  have cW : (w6.setCell ⟨ob, oo, none⟩ v).cell? ⟨g.cb, 9, none⟩ = some (.slice fa L L) := (World.cell?_setCell_other _ _ _ _ (fun e => hne (by cases e; rfl))).trans c
  have sW := hs.setCell ⟨ob, oo, none⟩ v
  have hz : ∀ i, 0 < i → i < (1 + L) * 6 → (w6.setCell ⟨ob, oo, none⟩ v).cell? ⟨ob, oo + i, none⟩ = oz[i % 6]? := fun i h0 hi => by
    rw [World.cell?_setCell_other _ _ _ _ (fun e => by have := congrArg Addr.off e; simp only at this; omega)]
    rcases hw with ⟨h1, h2, h3, _⟩ | ⟨h1, h2, _, _, h4⟩
    · have hz0 := h.fz i (by omega)
      have h6 : i % 6 < oz.size := by show i % 6 < 6; omega
      rw [Array.getElem?_eq_getElem h6] at hz0 ⊢
      rw [h1, h2]
      exact k.cell _ _ _ (fun hh => hne (by rw [h1]; exact hh.1)) hz0
    · rw [h4, made_oz _ (by omega), h2, Nat.zero_add]
  have hpl := sW.lt
  have hob6 : w6.heap.size = (w6.setCell ⟨ob, oo, none⟩ v).heap.size := by simp
  have h1 : CatB (w6.setCell ⟨ob, oo, none⟩ v) { g with fo := ⟨ob, oo + 1 * 6, L⟩, kd := fun x => if x = ob then 5 else g.kd x } := by
    refine h.frame kW (fun b o hb ho => ?_) g.ff g.fa ⟨ob, oo + 1 * 6, L⟩ g.fl _ (fun b hb => ?_) (fun b hb => ?_) (.inl ⟨rfl, Nat.le_refl _⟩) (.inl ⟨rfl, Nat.le_refl _⟩) ?_ (.inl ⟨rfl, Nat.le_refl _⟩) (h.Ff.kc kW (no 7 (by omega))) (h.Fa.kc kW (no 8 (by omega))) (Free.step (z := #[]) (a := g.fo) (w := w) cW hL sW (by omega) e) (h.Fl.kc kW (no 10 (by omega)))
      (fun hl => ?_) (fun hl => ?_) (fun _ => by simp) (fun hl => ?_) (fun i hi => ?_)
    · rcases ho with ⟨h1, h2⟩ | ⟨h1, h2⟩
      · exact .inl ⟨h1, by omega⟩
      · rcases hw with ⟨h4, h5, h6, _⟩ | ⟨h4, h5, _⟩
        · exact .inr (.inr (.inr (.inr (.inr (.inr (.inl ⟨by rw [h1, h4]; exact h.kfo (by omega), by rw [h1, h4], by omega⟩))))))
        · omega
    · try simp only
      by_cases hbp : b = ob
      · rw [if_pos hbp]; rw [hbp]; rcases hkp with h2 | ⟨h2, h3⟩ <;> omega
      · rw [if_neg hbp]
    · try simp only
      have := kW.size
      rw [if_neg (by omega)]
      exact h.beyond b (by omega)
    · rcases hw with ⟨h4, h5, h6, _⟩ | ⟨h4, h5, _⟩
      · exact .inl ⟨h4, by show g.fo.o ≤ oo + 1 * 6; omega⟩
      · exact .inr (by show w.heap.size ≤ ob; omega)
    · have := h.kff hl
      (try simp only); rw [if_neg (fun e => by rw [e] at this; rcases hkp with h2 | ⟨h2, _⟩ <;> omega)]; exact this
    · have := h.kfa hl
      (try simp only); rw [if_neg (fun e => by rw [e] at this; rcases hkp with h2 | ⟨h2, _⟩ <;> omega)]; exact this
    · have := h.kfl hl
      (try simp only); rw [if_neg (fun e => by rw [e] at this; rcases hkp with h2 | ⟨h2, _⟩ <;> omega)]; exact this
    · have hi' : i < L * 6 := hi
      have := hz (6 + i) (by omega) (by omega)
      rw [show (6 + i) % 6 = i % 6 by omega] at this
      show (w6.setCell ⟨ob, oo, none⟩ v).cell? ⟨ob, oo + 1 * 6 + i, none⟩ = oz[i % 6]?
      rw [show oo + 1 * 6 + i = oo + (6 + i) by omega]
      exact this
  have h2 := h1.newkey m n ob oo hm hn hno sW (by simp) (fun _ => by show oo + 6 ≤ oo + 1 * 6; omega) (fun i h0 hi => by have := hz i h0 (by omega); rw [Nat.mod_eq_of_lt hi] at this; exact this)
    (fun j hj => by
      have hj' : j < g.ks.length := hj
      have q := h.ovs j hj'
      have hql := q.sh.lt
      show (g.ov j).1 ≠ ob ∨ (g.ov j).2 + 6 ≤ oo
      by_cases hb : (g.ov j).1 = ob
      · rcases hw with ⟨h4, h5, h6, _⟩ | ⟨h4, h5, _⟩
        · have := q.lb (hb.trans h4); exact .inr (by omega)
        · omega
      · exact .inl hb)
  refine ⟨_, h2, rfl, ⟨rfl, rfl, rfl, rfl, rfl, fun b hb => ?_⟩, if_pos rfl, fun i hi => if_neg (Nat.ne_of_lt hi), kW, ?_⟩
  · show (if b = ob then 5 else g.kd b) = g.kd b
    by_cases hbp : b = ob
    · rw [if_pos hbp]; rw [hbp]; rcases hkp with h2 | ⟨h2, h3⟩ <;> omega
    · rw [if_neg hbp]
  · rcases hkp with h2 | ⟨_, h3⟩
    · exact .inl h2
    · exact .inr h3
end Go.Proofs.YbulkzmgFmt.Sc
