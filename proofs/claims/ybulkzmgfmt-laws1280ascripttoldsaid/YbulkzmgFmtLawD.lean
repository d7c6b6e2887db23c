import Derived.Test.YbulkzmgFmtLawC
import Derived.Maps.AppendAt
import Derived.Deep.DeepAppendRoom
namespace Go.Proofs.YbulkzmgFmt.Sc
open Go.RowKit Go.Extern.Stop Go.Stop Go.Extern
set_option linter.unusedVariables false

/-- append(v, one element), v owning its row. -/
theorem rowApp {P : Program} (w : World) (base : Nat) (t ty e : TypeId) (z : Value) (size bytes : Nat) (ht : P.underlying t = some (.slice e)) (hinfo : (P.info? e).map (fun i => (i.zero, i.size, i.bytes)) = some (some z, size, bytes)) (hzs : z.cells.size = size) (hsz : 0 < size) (hby : bytes ≤ 64)
    {v : Value} {n : Nat} {xs : List Value} (hown : w.ownsRow base e size v n xs) (a : Addr) (news : List Value) (hl : news.length = 1 * size) (hnews : ∀ j u, news[j]? = some u → w.cell? (a.add j) = some u) (h1 : ∀ u ∈ news, u.oneCell' = true) (hn : n ≤ 256) (hbase : base ≤ w.heap.size) :
    ∃ v' w', (Builtin.append_ #[t, t] ty #[v, .slice (some a) 1 1]).run P w = .ok v' w' ∧ w'.ownsRow base e size v' (n + 1) (xs ++ news) ∧ KC (fun x _ => v.ownBlock = some x) w w' ∧ (∀ b, v'.ownBlock = some b → v.ownBlock = some b ∨ w.heap.size ≤ b) := by
  obtain ⟨i, hi, hz, hs, hb⟩ := info_parts hinfo
  have hm : n + 1 ≤ maxLen := by unfold maxLen; omega
  have hbb : (n + 1) * bytes ≤ 140737488355328 := Nat.le_trans (Nat.mul_le_mul (by omega : n + 1 ≤ 257) hby) (by omega)
  rcases hown.2 with ⟨rfl, h0⟩ | ⟨g, cap, cur, rfl, hbg, hg, hnc, hcm, hcs, htk⟩
  · obtain ⟨v', w', hr, ho, hgr, _, hb'⟩ := run_append_own_at (P := P) w base t ty e i z size bytes ht hi hz hs hb hzs hsz _ n xs hown a 1 1 news hl hnews h1 hm hbb hbase
    refine ⟨v', w', hr, ho, KC.blocks hgr.os hgr.tape hgr.output hgr.size (fun k hk => hgr.block k hk (by simp [Value.ownBlock])), fun b e => .inr ?_⟩
    rcases hb' with q | q
    · rw [e] at q; simp [Value.ownBlock] at q
    · rw [e] at q; simp at q; omega
  · by_cases hroom : n + 1 ≤ cap
    · obtain ⟨w', hr, ho, hgr⟩ := run_append_own_spare (P := P) w base t ty e i size ht hi hs g n cap xs hown a 1 1 news hl hnews h1 hroom
      refine ⟨_, w', hr, ho, ?_, fun b e => .inl e⟩
      have hne : ∀ k, k ≠ g → some k ≠ some g := fun k hk e => hk (by simpa using e)
      refine ⟨hgr.os, hgr.tape, hgr.output, hgr.size, fun b hb hno => hgr.block b hb (fun e => hno 0 (by simp [Value.ownBlock]; simp at e; exact e.symm)), fun b o u hno hc => ?_, fun b t' m hsh => ?_⟩
      · have hbl := block_lt_of_cell hc
        have : w'.heap[b]? = w.heap[b]? := hgr.block b hbl (fun e => hno (by simp [Value.ownBlock]; simp at e; exact e.symm))
        rw [← hc]
        simp [World.cell?, this]
      · by_cases hbg' : b = g
        · subst hbg'
          obtain ⟨cs, h2, h3⟩ := hsh
          rw [hg] at h2
          cases h2
          rcases ho.2 with ⟨q, _⟩ | ⟨g', cap', cur', hv, _, hg', _, _, hcs', _⟩
          · cases q
          · cases hv
            exact ⟨cur', hg', by rw [hcs', ← hcs, h3]⟩
        · exact hsh.of_block (hgr.block b hsh.lt (hne b hbg'))
    · have hcap : cap = n := by omega
      subst hcap
      obtain ⟨v', w', hr, ho, hgr⟩ := run_append_arg_grows (P := P) w t ty e i z size bytes ht hi hz hs hb hzs hsz ⟨g, 0, none⟩ cap cap xs hown.1
        (fun j u hu => by
          have hadd : (⟨g, 0, none⟩ : Addr).add j = ⟨g, j, none⟩ := by unfold Addr.add; split <;> simp_all
          rw [hadd, cell_of_row w g j cur e (0, 0) hg]
          rw [← htk, List.getElem?_take] at hu
          split at hu
          · simpa using hu
          · cases hu)
        a 1 1 news hl hnews (by omega) hm hbb
      refine ⟨v', w', hr, ?_, KC.blocks hgr.os hgr.tape hgr.output hgr.size (fun k hk => hgr.block k hk (by simp)), fun b e => .inr ?_⟩
      · refine ⟨ho.1, ?_⟩
        rcases ho.2 with q | ⟨g', cap', cur', hv, hb', rest⟩
        · exact .inl q
        · exact .inr ⟨g', cap', cur', hv, by omega, rest⟩
      · rcases ho.2 with ⟨q, _⟩ | ⟨g', cap', cur', hv, hb', rest⟩
        · rw [q] at e; simp [Value.ownBlock] at e
        · rw [hv] at e; simp [Value.ownBlock] at e; omega

theorem Cat.row {w w' : World} {g : Gh} {b3 : Bool} (h : Cat w g b3) {own : Nat → Nat → Prop} (k : KC own w w') (ho : ∀ b o, own b o → g.kd b = 0) : Cat w' g b3 := by
  have hk : ∀ x o, g.kd x ≠ 0 → ¬ own x o := fun x o hx q => hx (ho x o q)
  have hcb : ∀ o, ¬ own g.cb o := fun o => hk _ o (by rw [h.body.kcb]; decide)
  refine h.top k (fun o _ => hcb o) (fun b o q => by rw [ho b o q]; decide) ?_ (Ext.refl w g) rfl rfl rfl
  refine h.body.frame k (fun b o _ q => .inr (.inr (.inr (.inl (ho b o q))))) g.ff g.fa g.fo g.fl g.kd (fun _ _ => rfl) (fun b hb => h.body.beyond b (Nat.le_trans k.size hb)) (.inl ⟨rfl, Nat.le_refl _⟩) (.inl ⟨rfl, Nat.le_refl _⟩) (.inl ⟨rfl, Nat.le_refl _⟩) (.inl ⟨rfl, Nat.le_refl _⟩)
    (h.body.Ff.kc k (hcb _)) (h.body.Fa.kc k (hcb _)) (h.body.Fo.kc k (hcb _)) (h.body.Fl.kc k (hcb _)) h.body.kff h.body.kfa h.body.kfo h.body.kfl (fun i hi => ?_)
  have hz := h.body.fz i hi
  have : i % 6 < oz.size := by show i % 6 < 6; omega
  rw [Array.getElem?_eq_getElem this] at hz ⊢
  exact k.cell _ _ _ (hk _ _ (by rw [h.body.kfo (by omega)]; decide)) hz

theorem ownsRow_kc {w w' : World} {B : Nat} {e : TypeId} {sz : Nat} {v : Value} {n : Nat} {xs : List Value} (h : w.ownsRow B e sz v n xs) {own : Nat → Nat → Prop} (k : KC own w w') (ho : ∀ b o, v.ownBlock = some b → ¬ own b o) : w'.ownsRow B e sz v n xs := by
  refine ⟨h.1, ?_⟩
  rcases h.2 with q | ⟨g, cap, cur, hv, hb, hg, r⟩
  · exact .inl q
  · refine .inr ⟨g, cap, cur, hv, hb, ?_, r⟩
    rw [k.block g (Array.getElem?_eq_some_iff.1 hg).1 (fun o => ho g o (by rw [hv]; rfl))]
    exact hg
theorem ownsRow_sh {w : World} {B : Nat} {e : TypeId} {sz : Nat} {v : Value} {n : Nat} {xs : List Value} (h : w.ownsRow B e sz v n xs) {b : Nat} (hb : v.ownBlock = some b) : B ≤ b ∧ ∃ m, Sh w b e m := by
  rcases h.2 with ⟨q, _⟩ | ⟨g, cap, cur, hv, hB, hg, r⟩
  · rw [q] at hb; simp [Value.ownBlock] at hb
  · rw [hv] at hb
    simp only [Value.ownBlock, Option.some.injEq] at hb
    subst hb
    exact ⟨hB, _, cur, hg, rfl⟩
theorem Sh.ty_eq {w : World} {b : Nat} {t t' : TypeId} {n n' : Nat} (h : Sh w b t n) (h' : Sh w b t' n') : t = t' := by
  obtain ⟨c, e, _⟩ := h
  obtain ⟨c', e', _⟩ := h'
  rw [e] at e'
  cases e'
  rfl

/-- The law's tables and the catalog. -/
structure LC (w0 : World) (p : Nat) (wr : World) (g : Gh) (b3 : Bool) (f16 : List Fn) (tb : Nat → Nat) : Prop where
  below : Below w0.heap.size w0 wr
  cat : Cat wr g b3
  cbv : g.cb = p + 7
  ty : g.ty = fun k => p + 9 + k
  kdB : ∀ b, g.kd b ≠ 0 → w0.heap.size ≤ b
  pB : w0.heap.size ≤ p
  t26 : wr.heap[p]? = some A26
  t27 : wr.heap[p + 1]? = some A27
  t28 : wr.heap[p + 2]? = some A28
  sd : Sh wr (p + 8) 50 7
  da : ∀ j, j < 7 → wr.cell? ⟨p + 8, j, none⟩ = some (.pointer (some ⟨p + 9 + j, 0, none⟩))
  kst : g.kd p = 0 ∧ g.kd (p + 1) = 0 ∧ g.kd (p + 2) = 0 ∧ g.kd (p + 8) = 0
  ts : ∀ j, j < f16.length → Sh wr (tb j) 34 (f16.getD j fn0).n ∧ g.kd (tb j) = 0 ∧ ∀ q, q < (f16.getD j fn0).n → wr.cell? ⟨tb j, q, none⟩ = some (.pointer (some ⟨p + 9 + (f16.getD j fn0).ka q, 0, none⟩))

theorem LC.sh {w0 : World} {p : Nat} {wr : World} {g : Gh} {b3 : Bool} {f16 : List Fn} {tb : Nat → Nat} (h : LC w0 p wr g b3 f16 tb) : Sh wr p 26 5 ∧ Sh wr (p + 1) 27 3 ∧ Sh wr (p + 2) 28 8 :=
  ⟨⟨_, h.t26, rfl⟩, ⟨_, h.t27, rfl⟩, ⟨_, h.t28, rfl⟩⟩
/-- What only writes into rows of the law's own, or beyond. -/
theorem LC.row {w0 : World} {p : Nat} {wr : World} {g : Gh} {b3 : Bool} {f16 : List Fn} {tb : Nat → Nat} (h : LC w0 p wr g b3 f16 tb) {own : Nat → Nat → Prop} {w' : World} (k : KC own wr w')
    (ho : ∀ x o, own x o → g.kd x = 0 ∧ w0.heap.size ≤ x ∧ ∃ e m, Sh wr x e m ∧ (e = 9 ∨ e = 63 ∨ e = 57 ∨ e = 39)) : LC w0 p w' g b3 f16 tb := by
  have no : ∀ {x e m o}, Sh wr x e m → (e = 26 ∨ e = 27 ∨ e = 28 ∨ e = 50 ∨ e = 34) → ¬ own x o := fun hs he q => by
    obtain ⟨_, _, e', m', hs', he'⟩ := ho _ _ q
    have := hs.ty_eq hs'
    rcases he with rfl | rfl | rfl | rfl | rfl <;> rcases he' with h | h | h | h <;> rw [h] at this <;> exact absurd this (by decide)
  obtain ⟨s1, s2, s3⟩ := h.sh
  refine ⟨h.below.trans (k.below h.below.size (fun x o q => (ho x o q).2.1)), h.cat.row k (fun b o q => (ho b o q).1), h.cbv, h.ty, h.kdB, h.pB, ?_, ?_, ?_, k.shape _ _ _ h.sd, fun j hj => k.cell _ _ _ (no h.sd (by simp)) (h.da j hj), h.kst, fun j hj => ⟨k.shape _ _ _ (h.ts j hj).1, (h.ts j hj).2.1, fun q hq => k.cell _ _ _ (no (h.ts j hj).1 (by simp)) ((h.ts j hj).2.2 q hq)⟩⟩
  · rw [k.block _ s1.lt (fun o => no s1 (by simp))]; exact h.t26
  · rw [k.block _ s2.lt (fun o => no s2 (by simp))]; exact h.t27
  · rw [k.block _ s3.lt (fun o => no s3 (by simp))]; exact h.t28
/-- AddFunction. -/
theorem LC.add {w0 : World} {p : Nat} {wr : World} {g : Gh} {b3 : Bool} {f16 : List Fn} {tb : Nat → Nat} (h : LC w0 p wr g b3 f16 tb) {w' : World} {g' : Gh} {b3' : Bool} (k : KC (fun b _ => g.kd b ≠ 0) wr w') (hc : Cat w' g' b3') (e : Ext wr g g') : LC w0 p w' g' b3' f16 tb := by
  obtain ⟨s1, s2, s3⟩ := h.sh
  obtain ⟨k1, k2, k3, k4⟩ := h.kst
  refine ⟨h.below.trans (k.below h.below.size (fun x o q => h.kdB x q)), hc, e.cb.trans h.cbv, e.ty.trans h.ty, fun b hb => ?_, h.pB, ?_, ?_, ?_, k.shape _ _ _ h.sd, fun j hj => k.cell _ _ _ (fun q => q k4) (h.da j hj), ⟨by rw [e.kd _ s1.lt]; exact k1, by rw [e.kd _ s2.lt]; exact k2, by rw [e.kd _ s3.lt]; exact k3, by rw [e.kd _ h.sd.lt]; exact k4⟩, fun j hj => ⟨k.shape _ _ _ (h.ts j hj).1, by rw [e.kd _ (h.ts j hj).1.lt]; exact (h.ts j hj).2.1, fun q hq => k.cell _ _ _ (fun z => z (h.ts j hj).2.1) ((h.ts j hj).2.2 q hq)⟩⟩
  · by_cases hlt : b < wr.heap.size
    · rw [e.kd b hlt] at hb; exact h.kdB b hb
    · have := h.below.size; omega
  · rw [k.block _ s1.lt (fun o q => q k1)]; exact h.t26
  · rw [k.block _ s2.lt (fun o q => q k2)]; exact h.t27
  · rw [k.block _ s3.lt (fun o q => q k3)]; exact h.t28

def X12 (f : List Fn) : List Value := f.map fun φ => .string φ.key
def X13 (ks : List (Nat × Nat)) : List Value := ks.flatMap fun k => [.string (nmN k.1), .int .i64 (k.2 : Nat)]
def X14 (f : List Fn) : List Value := f.map fun φ => .pointer (some φ.ad)
def X15 (f : List Fn) : List Value := f.map fun φ => .string (txt (scN φ.s) (nmN φ.m) φ.li)
def X16 (f : List Fn) (tb : Nat → Nat) : List Value := (List.range f.length).map fun j => .slice (some ⟨tb j, 0, none⟩) (f.getD j fn0).n (f.getD j fn0).n
/-- The law's own rows, at whatever place of a round. -/
structure LR (w0 : World) (p : Nat) (wr : World) (g : Gh) (b3 : Bool) (v12 v13 v14 v15 v16 : Value) (f12 : List Fn) (k13 : List (Nat × Nat)) (f14 f15 f16 : List Fn) (tb : Nat → Nat) : Prop where
  core : LC w0 p wr g b3 f16 tb
  keys : wr.ownsRow w0.heap.size 9 1 v12 f12.length (X12 f12)
  fkeys : wr.ownsRow w0.heap.size 63 2 v13 k13.length (X13 k13)
  made : wr.ownsRow w0.heap.size 57 1 v14 f14.length (X14 f14)
  texts : wr.ownsRow w0.heap.size 9 1 v15 f15.length (X15 f15)
  sets : wr.ownsRow w0.heap.size 39 1 v16 f16.length (X16 f16 tb)
  kr : ∀ v, v = v12 ∨ v = v13 ∨ v = v14 ∨ v = v15 ∨ v = v16 → ∀ b, v.ownBlock = some b → g.kd b = 0
  kt : v12.ownBlock = none ∨ v12.ownBlock ≠ v15.ownBlock
theorem LI.lr {w0 : World} {p i : Nat} {wr : World} {g : Gh} {b3 : Bool} {v12 v13 v14 v15 v16 : Value} {tb : Nat → Nat} (h : LI w0 p i wr g b3 v12 v13 v14 v15 v16 tb) : LR w0 p wr g b3 v12 v13 v14 v15 v16 g.fs g.ks g.fs g.fs g.fs tb :=
  ⟨⟨h.below, h.cat, h.cbv, h.ty, h.kdB, h.pB, h.t26, h.t27, h.t28, h.sd, h.da, h.kst, h.ts⟩, h.keys, h.fkeys, h.made, h.texts, h.sets, h.kr, h.kt⟩
theorem LR.li {w0 : World} {p i : Nat} {wr : World} {g : Gh} {b3 : Bool} {v12 v13 v14 v15 v16 : Value} {tb : Nat → Nat} (h : LR w0 p wr g b3 v12 v13 v14 v15 v16 g.fs g.ks g.fs g.fs g.fs tb) (hi : g.fs.length ≤ i) : LI w0 p i wr g b3 v12 v13 v14 v15 v16 tb :=
  ⟨h.core.below, h.core.cat, h.core.cbv, h.core.ty, h.core.kdB, h.core.pB, h.core.t26, h.core.t27, h.core.t28, h.core.sd, h.core.da, h.core.kst, hi, h.keys, h.fkeys, h.made, h.texts, h.sets, h.kr, h.kt, h.core.ts⟩
/-- Blocks of other kinds stay. -/
def Oth (w w' : World) : Prop := ∀ b e m, Sh w b e m → e ≠ 9 → e ≠ 63 → e ≠ 57 → e ≠ 39 → w'.heap[b]? = w.heap[b]?
theorem Oth.refl (w : World) : Oth w w := fun _ _ _ _ _ _ _ _ => rfl
theorem Oth.nob {w w' : World} (k : KC nob w w') : Oth w w' := fun b e m hs _ _ _ _ => k.block b hs.lt (fun _ => id)
theorem Oth.sh {w w' : World} (h : Oth w w') {b : Nat} {e : TypeId} {m : Nat} (hs : Sh w b e m) (h1 : e ≠ 9) (h2 : e ≠ 63) (h3 : e ≠ 57) (h4 : e ≠ 39) : Sh w' b e m := hs.of_block (h b e m hs h1 h2 h3 h4)
theorem Oth.trans {a b c : World} (h : Oth a b) (k : Oth b c) : Oth a c := fun x e m hs h1 h2 h3 h4 => (k x e m (h.sh hs h1 h2 h3 h4) h1 h2 h3 h4).trans (h x e m hs h1 h2 h3 h4)
theorem Oth.row {w w' : World} {B : Nat} {e : TypeId} {sz : Nat} {v : Value} {n : Nat} {xs : List Value} (hr : w.ownsRow B e sz v n xs) (he : e = 9 ∨ e = 63 ∨ e = 57 ∨ e = 39) (k : KC (fun x _ => v.ownBlock = some x) w w') : Oth w w' := fun b t m hs h1 h2 h3 h4 => k.block b hs.lt (fun _ q => by
  obtain ⟨_, _, q2⟩ := ownsRow_sh hr q
  have := hs.ty_eq q2
  rcases he with rfl | rfl | rfl | rfl
  · exact h1 this
  · exact h2 this
  · exact h3 this
  · exact h4 this)
theorem new1 (w : World) (cs : List Value) (e : TypeId) : ∀ j u, cs[j]? = some u → (w.alloc (.cells cs.toArray e)).cell? ((⟨w.heap.size, 0, none⟩ : Addr).add j) = some u := fun j u hu => by
  have hadd : (⟨w.heap.size, 0, none⟩ : Addr).add j = ⟨w.heap.size, j, none⟩ := by unfold Addr.add; split <;> simp_all
  rw [hadd, World.cell?_alloc_at _ _ _ _ rfl]
  simpa using hu
theorem info9' : (Ybaf.prog.info? 9).map (fun i => (i.zero, i.size, i.bytes)) = some (some (.string ⟨#[]⟩), 1, 16) := by kernel_rfl
theorem info63' : (Ybaf.prog.info? 63).map (fun i => (i.zero, i.size, i.bytes)) = some (some (.agg #[.string ⟨#[]⟩, .int .i64 0]), 2, 24) := by kernel_rfl
theorem info39' : (Ybaf.prog.info? 39).map (fun i => (i.zero, i.size, i.bytes)) = some (some (.slice none 0 0), 1, 24) := by kernel_rfl
theorem X12_app (f : List Fn) (φ : Fn) : X12 f ++ [.string φ.key] = X12 (f ++ [φ]) := by simp [X12]
theorem X13_app (ks : List (Nat × Nat)) (m n : Nat) : X13 ks ++ [.string (nmN m), .int .i64 (n : Nat)] = X13 (ks ++ [(m, n)]) := by simp [X13]
theorem X14_app (f : List Fn) (φ : Fn) : X14 f ++ [.pointer (some φ.ad)] = X14 (f ++ [φ]) := by simp [X14]
theorem X15_app (f : List Fn) (φ : Fn) : X15 f ++ [.string (txt (scN φ.s) (nmN φ.m) φ.li)] = X15 (f ++ [φ]) := by simp [X15]
def tbx (f : List Fn) (tb : Nat → Nat) (t : Nat) : Nat → Nat := fun j => if j = f.length then t else tb j
theorem getD_left (f : List Fn) (φ : Fn) {j : Nat} (h : j < f.length) : (f ++ [φ]).getD j fn0 = f.getD j fn0 := by
  simp [List.getD, List.getElem?_append_left h]
theorem getD_end (f : List Fn) (φ : Fn) : (f ++ [φ]).getD f.length fn0 = φ := by simp [List.getD]
theorem X16_app (f : List Fn) (tb : Nat → Nat) (φ : Fn) (t : Nat) : X16 f tb ++ [.slice (some ⟨t, 0, none⟩) φ.n φ.n] = X16 (f ++ [φ]) (tbx f tb t) := by
  unfold X16
  rw [List.length_append, List.length_singleton, List.range_succ, List.map_append]
  congr 1
  · refine List.map_congr_left fun j hj => ?_
    have : j < f.length := by simpa using hj
    rw [getD_left f φ this]
    simp only [tbx, if_neg (show ¬ j = f.length by omega)]
  · simp only [List.map_cons, List.map_nil, getD_end, tbx, if_true]
section
variable {w0 : World} {p : Nat} {wr : World} {g : Gh} {b3 : Bool} {v12 v13 v14 v15 v16 : Value} {f12 : List Fn} {k13 : List (Nat × Nat)} {f14 f15 f16 : List Fn} {tb : Nat → Nat}
theorem LR.nob (h : LR w0 p wr g b3 v12 v13 v14 v15 v16 f12 k13 f14 f15 f16 tb) {w' : World} (k : KC nob wr w') : LR w0 p w' g b3 v12 v13 v14 v15 v16 f12 k13 f14 f15 f16 tb :=
  ⟨h.core.row k (fun _ _ q => q.elim), ownsRow_kc h.keys k (fun _ _ _ => id), ownsRow_kc h.fkeys k (fun _ _ _ => id), ownsRow_kc h.made k (fun _ _ _ => id), ownsRow_kc h.texts k (fun _ _ _ => id), ownsRow_kc h.sets k (fun _ _ _ => id), h.kr, h.kt⟩
theorem LR.add (h : LR w0 p wr g b3 v12 v13 v14 v15 v16 f12 k13 f14 f15 f16 tb) {w' : World} {g' : Gh} {b3' : Bool} (k : KC (fun b _ => g.kd b ≠ 0) wr w') (hc : Cat w' g' b3') (e : Ext wr g g') : LR w0 p w' g' b3' v12 v13 v14 v15 v16 f12 k13 f14 f15 f16 tb := by
  have sh : ∀ v, v = v12 ∨ v = v13 ∨ v = v14 ∨ v = v15 ∨ v = v16 → ∀ b, v.ownBlock = some b → b < wr.heap.size := fun v hv b hb => by
    rcases hv with rfl | rfl | rfl | rfl | rfl
    · obtain ⟨_, _, q⟩ := ownsRow_sh h.keys hb; exact q.lt
    · obtain ⟨_, _, q⟩ := ownsRow_sh h.fkeys hb; exact q.lt
    · obtain ⟨_, _, q⟩ := ownsRow_sh h.made hb; exact q.lt
    · obtain ⟨_, _, q⟩ := ownsRow_sh h.texts hb; exact q.lt
    · obtain ⟨_, _, q⟩ := ownsRow_sh h.sets hb; exact q.lt
  exact ⟨h.core.add k hc e, ownsRow_kc h.keys k (fun b _ hb q => q (h.kr _ (by simp) b hb)), ownsRow_kc h.fkeys k (fun b _ hb q => q (h.kr _ (by simp) b hb)), ownsRow_kc h.made k (fun b _ hb q => q (h.kr _ (by simp) b hb)), ownsRow_kc h.texts k (fun b _ hb q => q (h.kr _ (by simp) b hb)), ownsRow_kc h.sets k (fun b _ hb q => q (h.kr _ (by simp) b hb)), fun v hv b hb => (e.kd b (sh v hv b hb)).trans (h.kr v hv b hb), h.kt⟩
/-- A row's own writing. -/
theorem LR.own (h : LR w0 p wr g b3 v12 v13 v14 v15 v16 f12 k13 f14 f15 f16 tb) {w' : World} {v : Value} {e : TypeId} {sz n : Nat} {xs : List Value} (hv : v = v12 ∨ v = v13 ∨ v = v14 ∨ v = v15 ∨ v = v16) (hr : wr.ownsRow w0.heap.size e sz v n xs) (he : e = 9 ∨ e = 63 ∨ e = 57 ∨ e = 39) (k : KC (fun x _ => v.ownBlock = some x) wr w') :
    LC w0 p w' g b3 f16 tb ∧ (e ≠ 9 ∨ v = v15 → w'.ownsRow w0.heap.size 9 1 v12 f12.length (X12 f12)) ∧ (e ≠ 63 → w'.ownsRow w0.heap.size 63 2 v13 k13.length (X13 k13)) ∧ (e ≠ 57 → w'.ownsRow w0.heap.size 57 1 v14 f14.length (X14 f14)) ∧ (e ≠ 9 ∨ v = v12 → w'.ownsRow w0.heap.size 9 1 v15 f15.length (X15 f15)) ∧ (e ≠ 39 → w'.ownsRow w0.heap.size 39 1 v16 f16.length (X16 f16 tb)) := by
  have ne : ∀ {u e' sz' n' xs'}, wr.ownsRow w0.heap.size e' sz' u n' xs' → e ≠ e' → ∀ b (o : Nat), u.ownBlock = some b → ¬ v.ownBlock = some b := fun hu hne b _ h1 h2 => by
    obtain ⟨_, _, q1⟩ := ownsRow_sh hu h1
    obtain ⟨_, _, q2⟩ := ownsRow_sh hr h2
    exact hne (q2.ty_eq q1)
  refine ⟨h.core.row k (fun x o q => ⟨h.kr v hv x q, (ownsRow_sh hr q).1, ?_⟩), fun q => ownsRow_kc h.keys k ?_, fun q => ownsRow_kc h.fkeys k (ne h.fkeys q), fun q => ownsRow_kc h.made k (ne h.made q), fun q => ownsRow_kc h.texts k ?_, fun q => ownsRow_kc h.sets k (ne h.sets q)⟩
  · obtain ⟨_, m, q2⟩ := ownsRow_sh hr q
    exact ⟨e, m, q2, he⟩
  · rcases q with q | q
    · exact ne h.keys q
    · intro b _ h1 h2
      subst q
      rcases h.kt with z | z
      · rw [z] at h1; cases h1
      · exact z (h1.trans h2.symm)
  · rcases q with q | q
    · exact ne h.texts q
    · intro b _ h1 h2
      subst q
      rcases h.kt with z | z
      · rw [z] at h2; cases h2
      · exact z (h2.trans h1.symm)
theorem LR.app12 (h : LR w0 p wr g b3 v12 v13 v14 v15 v16 f12 k13 f14 f15 f16 tb) (φ : Fn) (hn : f12.length ≤ 256) (ty : TypeId) :
    ∃ v' w', (Builtin.append_ #[53, 53] ty #[v12, .slice (some ⟨wr.heap.size, 0, none⟩) 1 1]).run Ybaf.prog (wr.alloc (.cells #[.string φ.key] 9)) = .ok v' w' ∧ LR w0 p w' g b3 v' v13 v14 v15 v16 (f12 ++ [φ]) k13 f14 f15 f16 tb ∧ Oth wr w' := by
  have k1 : KC Sc.nob wr (wr.alloc (.cells #[.string φ.key] 9)) := KC.alloc1 wr _
  have h1 := h.nob k1
  obtain ⟨v', w', hr, ho, k, hbk⟩ := rowApp (P := Ybaf.prog) (wr.alloc (.cells #[.string φ.key] 9)) w0.heap.size 53 ty 9 (.string ⟨#[]⟩) 1 16 Ybaf.underlying53 info9' rfl (by decide) (by decide) h1.keys ⟨wr.heap.size, 0, none⟩ [.string φ.key] rfl (new1 wr [.string φ.key] 9) (fun u hu => by simp at hu; rcases hu with rfl | rfl <;> rfl) hn h1.core.below.size
  obtain ⟨q0, q1, q2, q3, q4, q5⟩ := h1.own (by simp) h1.keys (by simp) k
  have oth := Oth.row h1.keys (by simp) k
  rw [X12_app] at ho
  have el : f12.length + 1 = (f12 ++ [φ]).length := by simp
  have ho' := ho
  rw [el] at ho'
  have kv : ∀ b, v'.ownBlock = some b → g.kd b = 0 := fun b hb => by
    rcases hbk b hb with q | q
    · exact h1.kr _ (by simp) b q
    · exact h1.core.cat.body.beyond b q
  refine ⟨v', w', hr, ⟨q0, ho', q2 (by decide), q3 (by decide), q4 (.inr rfl), q5 (by decide), fun u hu b hb => ?_, ?_⟩, (Oth.nob k1).trans oth⟩
  · rcases hu with rfl | rfl | rfl | rfl | rfl
    · exact kv b hb
    · exact h1.kr _ (by simp) b hb
    · exact h1.kr _ (by simp) b hb
    · exact h1.kr _ (by simp) b hb
    · exact h1.kr _ (by simp) b hb
  · rcases h1.kt with z | z
    · by_cases hv : v'.ownBlock = none
      · exact .inl hv
      · right
        intro e
        obtain ⟨b, hb⟩ := Option.ne_none_iff_exists'.1 hv
        rcases hbk b hb with q | q
        · rw [z] at q; cases q
        · obtain ⟨_, _, q2⟩ := ownsRow_sh h1.texts (e ▸ hb); have := q2.lt; omega
    · by_cases hv : v'.ownBlock = none
      · exact .inl hv
      · right
        intro e
        obtain ⟨b, hb⟩ := Option.ne_none_iff_exists'.1 hv
        rcases hbk b hb with q | q
        · exact z (q.trans (e ▸ hb).symm)
        · obtain ⟨_, _, q2⟩ := ownsRow_sh h1.texts (e ▸ hb); have := q2.lt; omega

theorem LR.app13 (h : LR w0 p wr g b3 v12 v13 v14 v15 v16 f12 k13 f14 f15 f16 tb) (m n : Nat) (hn : k13.length ≤ 256) (ty : TypeId) :
    ∃ v' w', (Builtin.append_ #[54, 54] ty #[v13, .slice (some ⟨wr.heap.size, 0, none⟩) 1 1]).run Ybaf.prog (wr.alloc (.cells #[.string (nmN m), .int .i64 (n : Nat)] 63)) = .ok v' w' ∧ LR w0 p w' g b3 v12 v' v14 v15 v16 f12 (k13 ++ [(m, n)]) f14 f15 f16 tb ∧ Oth wr w' := by
  have k1 : KC Sc.nob wr (wr.alloc (.cells #[.string (nmN m), .int .i64 (n : Nat)] 63)) := KC.alloc1 wr _
  have h1 := h.nob k1
  obtain ⟨v', w', hr, ho, k, hbk⟩ := rowApp (P := Ybaf.prog) (wr.alloc (.cells #[.string (nmN m), .int .i64 (n : Nat)] 63)) w0.heap.size 54 ty 63 (.agg #[.string ⟨#[]⟩, .int .i64 0]) 2 24 Ybaf.underlying54 info63' rfl (by decide) (by decide) h1.fkeys ⟨wr.heap.size, 0, none⟩ [.string (nmN m), .int .i64 (n : Nat)] rfl (new1 wr [.string (nmN m), .int .i64 (n : Nat)] 63) (fun u hu => by simp at hu; rcases hu with rfl | rfl <;> rfl) hn h1.core.below.size
  obtain ⟨q0, q1, q2, q3, q4, q5⟩ := h1.own (by simp) h1.fkeys (by simp) k
  have oth := Oth.row h1.fkeys (by simp) k
  rw [X13_app] at ho
  have el : k13.length + 1 = (k13 ++ [(m, n)]).length := by simp
  have ho' := ho
  rw [el] at ho'
  have kv : ∀ b, v'.ownBlock = some b → g.kd b = 0 := fun b hb => by
    rcases hbk b hb with q | q
    · exact h1.kr _ (by simp) b q
    · exact h1.core.cat.body.beyond b q
  refine ⟨v', w', hr, ⟨q0, q1 (.inl (by decide)), ho', q3 (by decide), q4 (.inl (by decide)), q5 (by decide), fun u hu b hb => ?_, ?_⟩, (Oth.nob k1).trans oth⟩
  · rcases hu with rfl | rfl | rfl | rfl | rfl
    · exact h1.kr _ (by simp) b hb
    · exact kv b hb
    · exact h1.kr _ (by simp) b hb
    · exact h1.kr _ (by simp) b hb
    · exact h1.kr _ (by simp) b hb
  · exact h1.kt

theorem LR.app14 (h : LR w0 p wr g b3 v12 v13 v14 v15 v16 f12 k13 f14 f15 f16 tb) (φ : Fn) (hn : f14.length ≤ 256) (ty : TypeId) :
    ∃ v' w', (Builtin.append_ #[45, 45] ty #[v14, .slice (some ⟨wr.heap.size, 0, none⟩) 1 1]).run Ybaf.prog (wr.alloc (.cells #[.pointer (some φ.ad)] 57)) = .ok v' w' ∧ LR w0 p w' g b3 v12 v13 v' v15 v16 f12 k13 (f14 ++ [φ]) f15 f16 tb ∧ Oth wr w' := by
  have k1 : KC Sc.nob wr (wr.alloc (.cells #[.pointer (some φ.ad)] 57)) := KC.alloc1 wr _
  have h1 := h.nob k1
  obtain ⟨v', w', hr, ho, k, hbk⟩ := rowApp (P := Ybaf.prog) (wr.alloc (.cells #[.pointer (some φ.ad)] 57)) w0.heap.size 45 ty 57 (.pointer none) 1 8 Ybaf.underlying45 info57' rfl (by decide) (by decide) h1.made ⟨wr.heap.size, 0, none⟩ [.pointer (some φ.ad)] rfl (new1 wr [.pointer (some φ.ad)] 57) (fun u hu => by simp at hu; rcases hu with rfl | rfl <;> rfl) hn h1.core.below.size
  obtain ⟨q0, q1, q2, q3, q4, q5⟩ := h1.own (by simp) h1.made (by simp) k
  have oth := Oth.row h1.made (by simp) k
  rw [X14_app] at ho
  have el : f14.length + 1 = (f14 ++ [φ]).length := by simp
  have ho' := ho
  rw [el] at ho'
  have kv : ∀ b, v'.ownBlock = some b → g.kd b = 0 := fun b hb => by
    rcases hbk b hb with q | q
    · exact h1.kr _ (by simp) b q
    · exact h1.core.cat.body.beyond b q
  refine ⟨v', w', hr, ⟨q0, q1 (.inl (by decide)), q2 (by decide), ho', q4 (.inl (by decide)), q5 (by decide), fun u hu b hb => ?_, ?_⟩, (Oth.nob k1).trans oth⟩
  · rcases hu with rfl | rfl | rfl | rfl | rfl
    · exact h1.kr _ (by simp) b hb
    · exact h1.kr _ (by simp) b hb
    · exact kv b hb
    · exact h1.kr _ (by simp) b hb
    · exact h1.kr _ (by simp) b hb
  · exact h1.kt

theorem LR.app15 (h : LR w0 p wr g b3 v12 v13 v14 v15 v16 f12 k13 f14 f15 f16 tb) (φ : Fn) (hn : f15.length ≤ 256) (ty : TypeId) :
    ∃ v' w', (Builtin.append_ #[53, 53] ty #[v15, .slice (some ⟨wr.heap.size, 0, none⟩) 1 1]).run Ybaf.prog (wr.alloc (.cells #[.string (txt (scN φ.s) (nmN φ.m) φ.li)] 9)) = .ok v' w' ∧ LR w0 p w' g b3 v12 v13 v14 v' v16 f12 k13 f14 (f15 ++ [φ]) f16 tb ∧ Oth wr w' := by
  have k1 : KC Sc.nob wr (wr.alloc (.cells #[.string (txt (scN φ.s) (nmN φ.m) φ.li)] 9)) := KC.alloc1 wr _
  have h1 := h.nob k1
  obtain ⟨v', w', hr, ho, k, hbk⟩ := rowApp (P := Ybaf.prog) (wr.alloc (.cells #[.string (txt (scN φ.s) (nmN φ.m) φ.li)] 9)) w0.heap.size 53 ty 9 (.string ⟨#[]⟩) 1 16 Ybaf.underlying53 info9' rfl (by decide) (by decide) h1.texts ⟨wr.heap.size, 0, none⟩ [.string (txt (scN φ.s) (nmN φ.m) φ.li)] rfl (new1 wr [.string (txt (scN φ.s) (nmN φ.m) φ.li)] 9) (fun u hu => by simp at hu; rcases hu with rfl | rfl <;> rfl) hn h1.core.below.size
  obtain ⟨q0, q1, q2, q3, q4, q5⟩ := h1.own (by simp) h1.texts (by simp) k
  have oth := Oth.row h1.texts (by simp) k
  rw [X15_app] at ho
  have el : f15.length + 1 = (f15 ++ [φ]).length := by simp
  have ho' := ho
  rw [el] at ho'
  have kv : ∀ b, v'.ownBlock = some b → g.kd b = 0 := fun b hb => by
    rcases hbk b hb with q | q
    · exact h1.kr _ (by simp) b q
    · exact h1.core.cat.body.beyond b q
  refine ⟨v', w', hr, ⟨q0, q1 (.inr rfl), q2 (by decide), q3 (by decide), ho', q5 (by decide), fun u hu b hb => ?_, ?_⟩, (Oth.nob k1).trans oth⟩
  · rcases hu with rfl | rfl | rfl | rfl | rfl
    · exact h1.kr _ (by simp) b hb
    · exact h1.kr _ (by simp) b hb
    · exact h1.kr _ (by simp) b hb
    · exact kv b hb
    · exact h1.kr _ (by simp) b hb
  · rcases h1.kt with z | z
    · exact .inl z
    · by_cases hv : v12.ownBlock = none
      · exact .inl hv
      · right
        intro e
        obtain ⟨b, hb⟩ := Option.ne_none_iff_exists'.1 hv
        rcases hbk b (e ▸ hb) with q | q
        · exact z (hb.trans q.symm)
        · obtain ⟨_, _, q2⟩ := ownsRow_sh h1.keys hb; have := q2.lt; omega

theorem LR.app16 (h : LR w0 p wr g b3 v12 v13 v14 v15 v16 f12 k13 f14 f15 f16 tb) (φ : Fn) (t : Nat) (hs : Sh wr t 34 φ.n) (hk : g.kd t = 0) (hc : ∀ q, q < φ.n → wr.cell? ⟨t, q, none⟩ = some (.pointer (some ⟨p + 9 + φ.ka q, 0, none⟩))) (hn : f16.length ≤ 256) (ty : TypeId) :
    ∃ v' w', (Builtin.append_ #[55, 55] ty #[v16, .slice (some ⟨wr.heap.size, 0, none⟩) 1 1]).run Ybaf.prog (wr.alloc (.cells #[.slice (some ⟨t, 0, none⟩) φ.n φ.n] 39)) = .ok v' w' ∧ LR w0 p w' g b3 v12 v13 v14 v15 v' f12 k13 f14 f15 (f16 ++ [φ]) (tbx f16 tb t) ∧ Oth wr w' := by
  have k1 : KC Sc.nob wr (wr.alloc (.cells #[.slice (some ⟨t, 0, none⟩) φ.n φ.n] 39)) := KC.alloc1 wr _
  have h1 := h.nob k1
  obtain ⟨v', w', hr, ho, k, hbk⟩ := rowApp (P := Ybaf.prog) (wr.alloc (.cells #[.slice (some ⟨t, 0, none⟩) φ.n φ.n] 39)) w0.heap.size 55 ty 39 (.slice none 0 0) 1 24 Ybaf.underlying55 info39' rfl (by decide) (by decide) h1.sets ⟨wr.heap.size, 0, none⟩ [.slice (some ⟨t, 0, none⟩) φ.n φ.n] rfl (new1 wr [.slice (some ⟨t, 0, none⟩) φ.n φ.n] 39) (fun u hu => by simp at hu; rcases hu with rfl | rfl <;> rfl) hn h1.core.below.size
  obtain ⟨q0, q1, q2, q3, q4, q5⟩ := h1.own (by simp) h1.sets (by simp) k
  have oth := Oth.row h1.sets (by simp) k
  rw [X16_app] at ho
  have qc : LC w0 p w' g b3 (f16 ++ [φ]) (tbx f16 tb t) := by
    have hs2 := oth.sh ((KC.alloc1 (own := Sc.nob) wr (.cells #[.slice (some ⟨t, 0, none⟩) φ.n φ.n] 39)).shape _ _ _ hs) (by decide) (by decide) (by decide) (by decide)
    have hc2 : ∀ q, q < φ.n → w'.cell? ⟨t, q, none⟩ = some (.pointer (some ⟨p + 9 + φ.ka q, 0, none⟩)) := fun q hq => by
      have e1 := World.cell?_of_block (w := wr) (w' := w') (a := ⟨t, q, none⟩) ((oth t 34 _ ((KC.alloc1 (own := Sc.nob) wr (.cells #[.slice (some ⟨t, 0, none⟩) φ.n φ.n] 39)).shape _ _ _ hs) (by decide) (by decide) (by decide) (by decide)).trans (Below.heap_alloc wr _ t hs.lt))
      exact e1.trans (hc q hq)
    refine ⟨q0.below, q0.cat, q0.cbv, q0.ty, q0.kdB, q0.pB, q0.t26, q0.t27, q0.t28, q0.sd, q0.da, q0.kst, fun j hj => ?_⟩
    by_cases hjn : j = f16.length
    · subst hjn
      rw [getD_end]
      simp only [tbx, if_true]
      exact ⟨hs2, hk, hc2⟩
    · have hj' : j < f16.length := by simp at hj; omega
      rw [getD_left f16 φ hj']
      simp only [tbx, if_neg hjn]
      exact q0.ts j hj'
  have el : f16.length + 1 = (f16 ++ [φ]).length := by simp
  have ho' := ho
  rw [el] at ho'
  have kv : ∀ b, v'.ownBlock = some b → g.kd b = 0 := fun b hb => by
    rcases hbk b hb with q | q
    · exact h1.kr _ (by simp) b q
    · exact h1.core.cat.body.beyond b q
  refine ⟨v', w', hr, ⟨qc, q1 (.inl (by decide)), q2 (by decide), q3 (by decide), q4 (.inl (by decide)), ho', fun u hu b hb => ?_, ?_⟩, (Oth.nob k1).trans oth⟩
  · rcases hu with rfl | rfl | rfl | rfl | rfl
    · exact h1.kr _ (by simp) b hb
    · exact h1.kr _ (by simp) b hb
    · exact h1.kr _ (by simp) b hb
    · exact h1.kr _ (by simp) b hb
    · exact kv b hb
  · exact h1.kt
end
end Go.Proofs.YbulkzmgFmt.Sc
