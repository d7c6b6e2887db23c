import Derived.Test.YbulkzmgFmtOvadd
namespace Go.Proofs.YbulkzmgFmt.Sc
open Go.RowKit Go.Extern.Stop Go.Stop Go.Extern
set_option linter.unusedVariables false

/-- Whether the catalog holds a function of that schema, name and list. -/
def Same (φ ψ : Fn) : Prop := ψ.s = φ.s ∧ ψ.m = φ.m ∧ ψ.n = φ.n ∧ ψ.li = φ.li

/-- What overloads.add leaves: nothing turned, or the catalog with one function more. -/
def OvPost (g : Gh) (j : Nat) (φ : Fn) (w : World) (e : Ending) (w' : World) : Prop :=
  ((∃ ψ ∈ g.fs, Same φ ψ) ∧ e = .returned (.bool false) ∧ KC nob w w') ∨
  ((∀ ψ ∈ g.fs, ¬ Same φ ψ) ∧ e = .returned (.bool true) ∧ ∃ g' : Gh, CatB w' g' ∧ g' = { g with fs := g.fs ++ [φ], ss := g'.ss, xm := g'.xm, fl := g'.fl, kd := g'.kd } ∧ (∀ b, b < w.heap.size → g'.kd b = g.kd b) ∧ KC (Own2 g j φ.s) w w')

theorem SO.shape {w : World} {lv mv : Value} {n : Nat} {f : Nat → Addr} {l : Nat → ByteArray} {S : SS} (h : SO w lv mv n f l S) : ∃ la ln lc mx, lv = .slice la ln lc ∧ mv = .map mx := by
  rcases h with ⟨_, rfl, rfl⟩ | ⟨_, rfl, _, ⟨_, rfl⟩ | ⟨_, rfl, _⟩⟩
  · exact ⟨_, _, _, _, rfl, rfl⟩
  · exact ⟨_, _, _, _, rfl, rfl⟩
  · exact ⟨_, _, _, _, rfl, rfl⟩

def Gh.put (g : Gh) (j s : Nat) (φ : Fn) (S : SS) (X : Nat) (fl : Fr) (kd : Nat → Nat) : Gh :=
  { g with fs := g.fs ++ [φ], ss := fun a b => if a = j ∧ b = s then S else g.ss a b, xm := fun a => if a = j ∧ s = 2 then X else g.xm a, fl := fl, kd := kd }

theorem ovadd {w : World} {g : Gh} (h : CatB w g) (j : Nat) (hj : j < g.ks.length) (φ : Fn) (hφ : FnOK w g φ) (hkey : g.key j = (φ.m, φ.n)) (hfs : g.fs.length ≤ 255) :
    Calls Ybaf.prog 14 #[.pointer (some ⟨(g.ov j).1, (g.ov j).2, none⟩), .pointer (some φ.ad), .pointer (some ⟨g.cb, 10, none⟩)] w (OvPost g j φ w) := by
  have q := h.ovs j hj
  have hsch : w.cell? ⟨φ.b, φ.o, none⟩ = some (.string (scN φ.s)) := by have := hφ.cells 0 _ rfl; simpa using this
  have hs3 := hφ.bd.1
  have in0 : ∀ x : Nat, g.kd x ≠ 0 → x < w.heap.size := fun x hx => Nat.lt_of_not_le fun hle => hx (h.beyond x hle)
  -- the two schemas with cells of their own
  have direct : ∀ s, s < 2 → φ.s = s → Calls Ybaf.prog 29 #[.pointer (some ⟨(g.ov j).1, (g.ov j).2 + (1 + 2 * s), none⟩), .pointer (some φ.ad), .pointer (some ⟨g.cb, 10, none⟩)] w fun e w' => ∃ r : Bool, e = .returned (.bool r) ∧ OvPost g j φ w e w' := by
    intro s hs hφs
    obtain ⟨lv, mv, c0, c1, a⟩ := q.s01 s hs
    refine (soadd h j s hj (by omega) φ hφ hkey hφs hfs (g.ov j).1 ((g.ov j).2 + (1 + 2 * s)) 84 (256 * 6) q.sh lv mv c0 c1 a (.inl q.kb)).mono ?_
    rintro e w' (⟨hd, rfl, hk⟩ | ⟨hd, rfl, lv', mv', S', fl', kd', kc, d0, d1, hkd, hbe, al, Fl, kfl, hso⟩)
    · exact ⟨_, rfl, .inl ⟨hd, rfl, hk⟩⟩
    · have hown : ∀ b o, ((b = (g.ov j).1 ∧ (o = (g.ov j).2 + (1 + 2 * s) ∨ o = (g.ov j).2 + (1 + 2 * s) + 1)) ∨ (b = g.cb ∧ o = 10) ∨ (g.kd b = 6 ∧ b = g.fl.b ∧ g.fl.o ≤ o) ∨ g.kd b = KL j s ∨ g.kd b = KM j s) → Own2 g j s b o := fun b o hh => by
        rcases hh with ⟨h1, h2⟩ | h1 | h1 | h1 | h1
        · exact .inl ⟨h1, .inl ⟨hs, h2⟩⟩
        · exact .inr (.inl h1)
        · exact .inr (.inr (.inl h1))
        · exact .inr (.inr (.inr (.inl h1)))
        · exact .inr (.inr (.inr (.inr (.inl h1))))
      refine ⟨_, rfl, .inr ⟨hd, rfl, g.put j s φ S' 0 fl' kd', ?_, rfl, hkd, kc.mono (fun b o _ hh => by rw [hφs]; exact hown b o hh)⟩⟩
      exact h.added j s hj (by omega) kc (fun b o _ hh => hown b o hh) φ hφ hkey hφs hd (g.put j s φ S' 0 fl' kd') rfl (fun a b hne => if_neg hne) (fun a hne => if_neg (by omega)) hkd hbe al Fl (fun hl => (kfl hl).1)
        (fun _ => ⟨lv', mv', d0, d1, hso _ (if_pos ⟨rfl, rfl⟩) (fun x _ => rfl) rfl⟩) (fun e => by omega)
  have hcase : φ.s = 0 ∨ φ.s = 1 ∨ φ.s = 2 := by omega
  rcases hcase with h0 | h1 | h2
  · rw [h0] at hsch
    exact ov14_builtin _ _ _ _ _ w _ hsch (direct 0 (by omega) h0)
  · rw [h1] at hsch
    exact ov14_public _ _ _ _ _ w _ hsch (direct 1 (by omega) h1)
  · rw [h2] at hsch
    have hob5 : ∀ {x : Nat}, g.kd x = 5 → x < w.heap.size := fun hx => in0 _ (by rw [hx]; decide)
    have ltob := q.sh.lt
    have kne : ∀ {x y : Nat}, g.kd x ≠ g.kd y → x ≠ y := fun hxy e => hxy (by rw [e])
    -- what the inner add may turn, seen from outside
    have hown : ∀ b o, b < w.heap.size → ((b = w.heap.size ∧ (o = 0 ∨ o = 0 + 1)) ∨ (b = g.cb ∧ o = 10) ∨ (g.kd b = 6 ∧ b = g.fl.b ∧ g.fl.o ≤ o) ∨ g.kd b = KL j 2 ∨ g.kd b = KM j 2) → Own2 g j 2 b o := fun b o hb hh => by
      rcases hh with ⟨h1, h2⟩ | h1 | h1 | h1 | h1
      · omega
      · exact .inr (.inl h1)
      · exact .inr (.inr (.inl h1))
      · exact .inr (.inr (.inr (.inl h1)))
      · exact .inr (.inr (.inr (.inr (.inl h1))))
    rcases q.s2 with ⟨hg0, hc⟩ | ⟨hg0, hc, kx, lv, mv, hm, a⟩
    · -- no map of others yet
      refine ov14_s1new _ _ 84 (256 * 6) _ _ _ w hsch hc q.sh _ ?_
      intro w1 k1 hz1 hsh1 e0 e1
      have h1 := h.nob k1
      have a0 : SoAt w1 g (g.gr j 2) j 2 (.slice none 0 0) (.map none) := by
        rw [hg0]
        exact ⟨.inl ⟨rfl, rfl, rfl⟩, fun h => absurd h (by simp), fun h => absurd h (by simp)⟩
      refine (soadd h1 j 2 hj (by omega) φ (hφ.nob k1) hkey h2 hfs w.heap.size 0 81 2 hsh1 _ _ e0 e1 a0 (.inr (h.beyond _ (Nat.le_refl _)))).mono ?_
      rintro e w' (⟨⟨ψ, hψ, hsame⟩, rfl, hk⟩ | ⟨hd, rfl, lv', mv', S', fl', kd', kc, d0, d1, hkd, hbe, al, Fl, kfl, hso⟩)
      · exfalso
        have : ψ ∈ g.gr j 2 := by
          unfold Gh.gr grp
          rw [hkey]
          exact List.mem_filter.2 ⟨hψ, by simp [hsame.2.1, hsame.2.2.1, hsame.1, h2]⟩
        rw [hg0] at this
        cases this
      · have kf : KC (Own2 g j 2) w w' := k1.any.transNew kc (fun b o hh => by
          by_cases hb : b < w.heap.size
          · exact .inl (hown b o hb hh)
          · exact .inr (by omega))
        have kds : ∀ x, x < w.heap.size → kd' x = g.kd x := fun x hx => hkd x (by omega)
        have noc : ∀ o, ¬ ((g.ov j).1 = w.heap.size ∧ (o = 0 ∨ o = 0 + 1) ∨ (g.ov j).1 = g.cb ∧ o = 10 ∨ (g.kd (g.ov j).1 = 6 ∧ (g.ov j).1 = g.fl.b ∧ g.fl.o ≤ o) ∨ g.kd (g.ov j).1 = KL j 2 ∨ g.kd (g.ov j).1 = KM j 2) := fun o hh => by
          have e5 := q.kb
          rcases hh with ⟨h1, _⟩ | ⟨h1, _⟩ | ⟨h1, _⟩ | h1 | h1
          · omega
          · have := h.kcb; rw [← h1] at this; omega
          · omega
          · simp only [KL] at h1; omega
          · simp only [KM] at h1; omega
        have nop : ∀ o, ¬ (φ.b = w.heap.size ∧ (o = 0 ∨ o = 0 + 1) ∨ φ.b = g.cb ∧ o = 10 ∨ (g.kd φ.b = 6 ∧ φ.b = g.fl.b ∧ g.fl.o ≤ o) ∨ g.kd φ.b = KL j 2 ∨ g.kd φ.b = KM j 2) := fun o hh => by
          have e5 := hφ.kb
          have := in0 φ.b (by rw [e5]; decide)
          rcases hh with ⟨h1, _⟩ | ⟨h1, _⟩ | ⟨h1, _⟩ | h1 | h1
          · omega
          · have := h.kcb; rw [← h1] at this; omega
          · omega
          · simp only [KL] at h1; omega
          · simp only [KM] at h1; omega
        refine ⟨rfl, lv', mv', d0, d1, kc.cell _ _ _ (noc _) (k1.cell _ _ _ id hc), kc.shape _ _ _ (k1.shape _ _ _ q.sh), kc.cell _ _ _ (nop _) (k1.cell _ _ _ id hsch), by have := kc.size; omega, kne (by rw [hφ.kb, q.kb]; decide), ?_⟩
        intro w'' xm hxm kw c5 hmE
        have hxl := hmE.lt
        have k'' : KC (Own2 g j 2) w w'' := kf.transNew kw (fun b o hh => .inl (.inl ⟨hh.1, .inr ⟨rfl, hh.2⟩⟩))
        have hw'z := kc.size
        obtain ⟨kd2, hkd2⟩ : ∃ kd2 : Nat → Nat, kd2 = fun x => if x = xm then KX j else kd' x := ⟨_, rfl⟩
        have hkd2o : ∀ x, x < w'.heap.size → kd2 x = kd' x := fun x hx => by rw [hkd2]; simp only; rw [if_neg (by omega)]
        have hso' : SoAt w' (g.put j 2 φ S' xm fl' kd2) (g.gr j 2 ++ [φ]) j 2 lv' mv' := hso _ (if_pos ⟨rfl, rfl⟩) hkd2o rfl
        have hsoW : SoAt w'' (g.put j 2 φ S' xm fl' kd2) (g.gr j 2 ++ [φ]) j 2 lv' mv' := by
          have kdob : ∀ x, x < w.heap.size → kd2 x = g.kd x := fun x hx => (hkd2o x (by omega)).trans (kds x hx)
          refine ⟨hso'.so.kc kw (fun h0 i hi hh => ?_) (fun h8 o hh => ?_), hso'.kl, hso'.km⟩
          · have e5 : kd2 (g.ov j).1 = 5 := (kdob _ ltob).trans q.kb
            have hb : (g.put j 2 φ S' xm fl' kd2).kd ((g.put j 2 φ S' xm fl' kd2).ss j 2).b = kd2 ((g.put j 2 φ S' xm fl' kd2).ss j 2).b := rfl
            rcases hso'.kl h0 with e | ⟨e, _⟩
            · rw [hh.1] at e; unfold KL at e; have : kd2 (g.ov j).1 = 10 + 8 * j + 2 := e; omega
            · rw [hh.1] at e; have : kd2 (g.ov j).1 = 6 := e; omega
          · have e5 : kd2 (g.ov j).1 = 5 := (kdob _ ltob).trans q.kb
            have e := hso'.km h8
            rw [hh.1] at e; unfold KM at e; have : kd2 (g.ov j).1 = 13 + 8 * j + 2 := e; omega
        refine .inr ⟨hd, rfl, g.put j 2 φ S' xm fl' kd2, ?_, rfl, fun b hb => (hkd2o b (by omega)).trans (kds b hb), by rw [h2]; exact k''⟩
        refine h.added j 2 hj (by omega) k'' (fun b o _ hh => hh) φ hφ hkey h2 hd (g.put j 2 φ S' xm fl' kd2) rfl (fun a b hne => if_neg hne) (fun a hne => if_neg (fun hh => hne ⟨hh.1, rfl⟩)) (fun b hb => (hkd2o b (by omega)).trans (kds b hb)) (fun b hb => ?_) ?_ (Fl.kc kw (fun hh => ?_)) (fun hl => ?_) (fun e => absurd e (by omega)) (fun _ => ⟨?_, ?_, lv', mv', ?_, hsoW⟩)
        · show kd2 b = 0
          have := kw.size
          rw [hkd2]; simp only
          rw [if_neg (by omega)]
          exact hbe b (by omega)
        · rcases al with al | al
          · exact .inl al
          · exact .inr (by show w.heap.size ≤ fl'.b; omega)
        · have := h.kcb; rw [hh.1, q.kb] at this; omega
        · obtain ⟨z1, z2⟩ := kfl hl
          show kd2 fl'.b = 6
          rw [hkd2o _ z2]; exact z1
        · show w''.cell? _ = some (.map (some (if j = j ∧ 2 = 2 then xm else g.xm j)))
          rw [if_pos ⟨rfl, rfl⟩]; exact c5
        · show kd2 (if j = j ∧ 2 = 2 then xm else g.xm j) = KX j
          rw [if_pos ⟨rfl, rfl⟩, hkd2]; simp
        · show MapE w'' (if j = j ∧ 2 = 2 then xm else g.xm j) _
          rw [if_pos ⟨rfl, rfl⟩]; exact hmE
    · -- the map of others is there
      obtain ⟨la, ln, lc, mx, rfl, rfl⟩ := a.so.shape
      refine ov14_s1 _ _ 84 (256 * 6) _ _ _ _ la ln lc mx w hsch hc q.sh hm _ ?_
      intro w1 k1 hz1 hsh1 e0 e1
      have h1 := h.nob k1
      have a1 : SoAt w1 g (g.gr j 2) j 2 (.slice la ln lc) (.map mx) := ⟨a.so.kc k1 (fun _ _ _ => id) (fun _ _ => id), a.kl, a.km⟩
      refine (soadd h1 j 2 hj (by omega) φ (hφ.nob k1) hkey h2 hfs w.heap.size 0 81 2 hsh1 _ _ e0 e1 a1 (.inr (h.beyond _ (Nat.le_refl _)))).mono ?_
      rintro e w' (⟨hdup, rfl, hk⟩ | ⟨hd, rfl, lv', mv', S', fl', kd', kc, d0, d1, hkd, hbe, al, Fl, kfl, hso⟩)
      · exact .inl ⟨rfl, .inl ⟨hdup, rfl, k1.trans hk⟩⟩
      · have kf : KC (Own2 g j 2) w w' := k1.any.transNew kc (fun b o hh => by
          by_cases hb : b < w.heap.size
          · exact .inl (hown b o hb hh)
          · exact .inr (by omega))
        have kds : ∀ x, x < w.heap.size → kd' x = g.kd x := fun x hx => hkd x (by omega)
        have nox : ∀ x o, x < w.heap.size → (g.kd x = 5 ∨ g.kd x = 3 ∨ g.kd x = KX j) → ¬ (x = w.heap.size ∧ (o = 0 ∨ o = 0 + 1) ∨ x = g.cb ∧ o = 10 ∨ (g.kd x = 6 ∧ x = g.fl.b ∧ g.fl.o ≤ o) ∨ g.kd x = KL j 2 ∨ g.kd x = KM j 2) := fun x o hx hk hh => by
          simp only [KX] at hk
          rcases hh with ⟨h1, _⟩ | ⟨h1, _⟩ | ⟨h1, _⟩ | h1 | h1
          · omega
          · have := h.kcb; rw [← h1] at this; omega
          · omega
          · simp only [KL] at h1; omega
          · simp only [KM] at h1; omega
        refine .inr ⟨rfl, lv', mv', d0, d1, kc.cell _ _ _ (nox _ _ ltob (.inl q.kb)) (k1.cell _ _ _ id hc), kc.cell _ _ _ (nox _ _ (in0 φ.b (by rw [hφ.kb]; decide)) (.inr (.inl hφ.kb))) (k1.cell _ _ _ id hsch), (hm.kc k1 (fun _ => id)).kc kc (fun o => nox _ _ hm.lt (.inr (.inr kx))), ?_⟩
        intro w'' kw hmE
        have hw'z := kc.size
        have k'' : KC (Own2 g j 2) w w'' := kf.transNew kw (fun b o hh => .inl (by rw [hh]; exact .inr (.inr (.inr (.inr (.inr ⟨rfl, kx⟩))))))
        have hso' : SoAt w' (g.put j 2 φ S' (g.xm j) fl' kd') (g.gr j 2 ++ [φ]) j 2 lv' mv' := hso _ (if_pos ⟨rfl, rfl⟩) (fun x _ => rfl) rfl
        have kxm : kd' (g.xm j) = KX j := (kds _ hm.lt).trans kx
        have hsoW : SoAt w'' (g.put j 2 φ S' (g.xm j) fl' kd') (g.gr j 2 ++ [φ]) j 2 lv' mv' := by
          refine ⟨hso'.so.kc kw (fun h0 i hi hh => ?_) (fun h8 o hh => ?_), hso'.kl, hso'.km⟩
          · unfold KX at kxm
            rcases hso'.kl h0 with e | ⟨e, _⟩
            · rw [hh] at e; unfold KL at e; have : kd' (g.xm j) = 10 + 8 * j + 2 := e; omega
            · rw [hh] at e; have : kd' (g.xm j) = 6 := e; omega
          · have e := hso'.km h8
            unfold KX at kxm
            rw [hh] at e; unfold KM at e; have : kd' (g.xm j) = 13 + 8 * j + 2 := e; omega
        refine .inr ⟨hd, rfl, g.put j 2 φ S' (g.xm j) fl' kd', ?_, rfl, kds, by rw [h2]; exact k''⟩
        refine h.added j 2 hj (by omega) k'' (fun b o _ hh => hh) φ hφ hkey h2 hd (g.put j 2 φ S' (g.xm j) fl' kd') rfl (fun a b hne => if_neg hne) (fun a hne => if_neg (fun hh => hne ⟨hh.1, rfl⟩)) kds (fun b hb => ?_) ?_ (Fl.kc kw (fun hh => ?_)) (fun hl => ?_) (fun e => absurd e (by omega)) (fun _ => ⟨?_, ?_, lv', mv', ?_, hsoW⟩)
        · have := kw.size
          exact hbe b (by omega)
        · rcases al with al | al
          · exact .inl al
          · exact .inr (by show w.heap.size ≤ fl'.b; omega)
        · have := h.kcb; rw [hh] at this; rw [kx] at this; unfold KX at this; omega
        · exact (kfl hl).1
        · show w''.cell? _ = some (.map (some (if j = j ∧ 2 = 2 then g.xm j else g.xm j)))
          rw [if_pos ⟨rfl, rfl⟩]
          refine kw.cell _ _ _ (fun hh => ?_) (kc.cell _ _ _ (nox _ _ ltob (.inl q.kb)) (k1.cell _ _ _ id hc))
          have := q.kb; rw [hh, kx] at this; unfold KX at this; omega
        · show kd' (if j = j ∧ 2 = 2 then g.xm j else g.xm j) = KX j
          rw [if_pos ⟨rfl, rfl⟩]; exact kxm
        · show MapE w'' (if j = j ∧ 2 = 2 then g.xm j else g.xm j) _
          rw [if_pos ⟨rfl, rfl⟩]; exact hmE
end Go.Proofs.YbulkzmgFmt.Sc
