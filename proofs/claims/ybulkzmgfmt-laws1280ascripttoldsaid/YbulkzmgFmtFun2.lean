import Derived.Test.YbulkzmgFmtFun
namespace Go.Proofs.YbulkzmgFmt.Sc
open Go.RowKit Go.Extern.Stop Go.Stop Go.Extern
set_option linter.unusedVariables false

theorem MapE.len32 {w : World} {b : Nat} {L : List (Value × Value)} (h : MapE w b L) (ty : TypeId) : (Builtin.len_ #[32] ty #[.map (some b)]).run Ybaf.prog w = .ok (goInt L.length) w := by
  obtain ⟨es, cl, hb, rfl⟩ := h
  have := run_len_map (P := Ybaf.prog) w 32 ty b es cl (by kernel_rfl) hb
  simpa using this

/-- What may be turned while the argument types are written. -/
def own4 (cb pb po n x y : Nat) : Prop := (x = cb ∧ y = 8) ∨ (x = pb ∧ po ≤ y ∧ y < po + n)

/-- The piece that argChunks handed out. -/
structure ArgP (w : World) (g : Gh) (n pb po L : Nat) (fa : Option Addr) (wr : World) : Prop where
  kc : KC (own4 g.cb pb po n) w wr
  c8 : wr.cell? ⟨g.cb, 8, none⟩ = some (.slice fa L L)
  hL : 0 < L → fa = some ⟨pb, po + n * 1, none⟩
  sh : Sh wr pb 34 (256 * 1)
  eq : po + (n + L) * 1 = 256 * 1
  wh : (pb = g.fa.b ∧ po = g.fa.o ∧ L + n = g.fa.len) ∨ (w.heap.size ≤ pb ∧ po = 0)

theorem ArgP.ne {w : World} {g : Gh} {n pb po L : Nat} {fa : Option Addr} {wr : World} (p : ArgP w g n pb po L fa wr) (h : CatB w g) (hn : 0 < n) {x : Nat} (hx : x < w.heap.size) (hk : g.kd x ≠ 4) : x ≠ pb := fun e => by
  rcases p.wh with ⟨h1, h2, h3⟩ | ⟨h1, _⟩
  · exact hk (by rw [e, h1]; exact h.kfa (by omega))
  · omega
/-- The catalog behind it. -/
theorem ArgP.cat {w : World} {g : Gh} {b3 : Bool} {n pb po L : Nat} {fa : Option Addr} {wr : World} (p : ArgP w g n pb po L fa wr) (h : Cat w g b3) (hn : 0 < n) :
    ∃ g', Cat wr g' b3 ∧ g' = { g with fa := g'.fa, kd := g'.kd } ∧ Ext w g g' ∧ g'.kd pb = 4 ∧ (pb = g'.fa.b → po + n ≤ g'.fa.o) ∧ KC (fun b _ => g.kd b ≠ 0) w wr := by
  obtain ⟨g', h1, h2, h3, h4, h5⟩ := h.body.args p.kc p.c8 p.hL p.sh p.eq hn p.wh
  have hcb := h.body.kcb
  have lcb := h.body.scb.lt
  refine ⟨g', h.top p.kc (fun o ho hh => ?_) (fun b o hh => ?_) h1 h3 (by rw [h2]) (by rw [h2]) (by rw [h2]), h2, h3, h4, h5, p.kc.mono fun b o hb hh => ?_⟩
  · rcases hh with ⟨_, h6⟩ | ⟨h6, _⟩
    · omega
    · exact p.ne h.body hn lcb (by omega) h6
  · rcases hh with ⟨h6, _⟩ | ⟨h6, _⟩
    · rw [h6]; omega
    · rw [h6]
      rcases p.wh with ⟨q1, q2, q3⟩ | ⟨q1, _⟩
      · rw [q1, h.body.kfa (by omega)]; decide
      · rw [h.body.beyond _ q1]; decide
  · rcases hh with ⟨h6, _⟩ | ⟨h6, _⟩
    · rw [h6]; omega
    · rcases p.wh with ⟨q1, q2, q3⟩ | ⟨q1, _⟩
      · rw [h6, q1, h.body.kfa (by omega)]; decide
      · omega


theorem CatB.tops {w w' : World} {g : Gh} (h : CatB w g) (k : KC (fun x y => (x = g.cb ∧ y = 5) ∨ x = g.fm ∨ x = g.sm) w w') : CatB w' g := by
  have hk1 := h.kcb
  have hk8 := h.kfm
  have hk9 := h.ksm
  have no : ∀ x y, g.kd x ≠ 8 → g.kd x ≠ 9 → (g.kd x = 1 → y ≠ 5) → ¬ ((x = g.cb ∧ y = 5) ∨ x = g.fm ∨ x = g.sm) := fun x y h8 h9 h5 q => by
    rcases q with ⟨q, q'⟩ | q | q
    · exact h5 (by rw [q]; exact hk1) q'
    · exact h8 (by rw [q]; exact hk8)
    · exact h9 (by rw [q]; exact hk9)
  refine h.frame k (fun b o _ ho => ?_) g.ff g.fa g.fo g.fl g.kd (fun _ _ => rfl) (fun b hb => h.beyond b (Nat.le_trans k.size hb)) (.inl ⟨rfl, Nat.le_refl _⟩) (.inl ⟨rfl, Nat.le_refl _⟩) (.inl ⟨rfl, Nat.le_refl _⟩) (.inl ⟨rfl, Nat.le_refl _⟩)
    (h.Ff.kc k (no _ _ (by omega) (by omega) (by omega))) (h.Fa.kc k (no _ _ (by omega) (by omega) (by omega))) (h.Fo.kc k (no _ _ (by omega) (by omega) (by omega))) (h.Fl.kc k (no _ _ (by omega) (by omega) (by omega))) h.kff h.kfa h.kfo h.kfl (fun i hi => ?_)
  · rcases ho with ⟨h1, h2⟩ | h1 | h1
    · exact .inl ⟨h1, by omega⟩
    · exact .inr (.inl h1)
    · exact .inr (.inr (.inl h1))
  · have hz := h.fz i hi
    have h6 : i % 6 < oz.size := by show i % 6 < 6; omega
    rw [Array.getElem?_eq_getElem h6] at hz ⊢
    have h5 := h.kfo (by omega)
    exact k.cell _ _ _ (no _ _ (by omega) (by omega) (by omega)) hz

theorem nm_inj {a b : Nat} (ha : a < 2) (hb : b < 2) (h : nmN a = nmN b) : a = b := by
  have : (a = 0 ∨ a = 1) ∧ (b = 0 ∨ b = 1) := ⟨by omega, by omega⟩
  rcases this with ⟨rfl | rfl, rfl | rfl⟩
  · rfl
  · exact absurd (congrArg (fun x : ByteArray => x.data.toList) h) (by decide)
  · exact absurd (congrArg (fun x : ByteArray => x.data.toList) h) (by decide)
  · rfl

theorem FK_good (ks : List (Nat × Nat)) (ov : Nat → Nat × Nat) (n : Nat) : ∀ p ∈ FK ks ov n, funKey p.1 := by
  intro p hp
  obtain ⟨j, _, rfl⟩ := List.mem_map.1 hp
  exact ⟨_, _, rfl⟩
/-- functions[key], the key there. -/
theorem Cat.found {w W : World} {g : Gh} (h : CatB w g) (mf : MapE W g.fm (FK g.ks g.ov g.ks.length)) (j m n : Nat) (hj : j < g.ks.length) (hk : g.key j = (m, n)) (c : Bool) :
    (Instr.lookup 32 (.map (some g.fm)) (.agg #[.string (nmN m), .int .i64 (n : Nat)]) c).run Ybaf.prog W = .ok (if c then .tuple #[.pointer (some ⟨(g.ov j).1, (g.ov j).2, none⟩), .bool true] else .pointer (some ⟨(g.ov j).1, (g.ov j).2, none⟩)) W := by
  have hk' : g.ks.getD j (0, 0) = (m, n) := hk
  refine mf.look_some funOK Ybaf.underlying32 (FK_good _ _ _) (key := .agg #[.string (nmN m), .int .i64 (n : Nat)]) (v := .pointer (some ⟨(g.ov j).1, (g.ov j).2, none⟩)) ⟨_, _, rfl⟩ (List.mem_map.2 ⟨j, by simpa using hj, by simp only [hk']⟩) (fun v' hv => ?_) c
  obtain ⟨i, hi, he⟩ := List.mem_map.1 hv
  have hi' : i < g.ks.length := by simpa using hi
  simp only [Prod.mk.injEq, Value.agg.injEq, Array.mk.injEq, List.cons.injEq, Value.string.injEq, Value.int.injEq, and_true, true_and] at he
  obtain ⟨⟨e1, e2⟩, e3⟩ := he
  have hb := h.kbd i hi'
  have hbj := h.kbd j hj
  rw [hk] at hbj
  have : g.key i = (m, n) := by
    have e1' : nmN (g.key i).1 = nmN m := e1
    have e2' : (((g.key i).2 : Nat) : Int) = ((n : Nat) : Int) := e2
    have := nm_inj hb.1 hbj.1 e1'
    exact Prod.ext this (by simp only; omega)
  have hij := h.kdis i j hi' hj (by rw [this, hk])
  subst hij
  exact e3.symm
theorem FK_no {w : World} {g : Gh} (h : CatB w g) (m n : Nat) (hm : m < 2) (hno : ∀ j, j < g.ks.length → g.key j ≠ (m, n)) : ∀ p ∈ FK g.ks g.ov g.ks.length, p.1 ≠ .agg #[.string (nmN m), .int .i64 (n : Nat)] := by
  intro p hp he
  obtain ⟨i, hi, rfl⟩ := List.mem_map.1 hp
  have hi' : i < g.ks.length := by simpa using hi
  simp only [Value.agg.injEq, Array.mk.injEq, List.cons.injEq, Value.string.injEq, Value.int.injEq, and_true, true_and] at he
  have hb := h.kbd i hi'
  have e1' : nmN (g.key i).1 = nmN m := he.1
  have e2' : (((g.key i).2 : Nat) : Int) = ((n : Nat) : Int) := he.2
  have := nm_inj hb.1 hm e1'
  exact hno i hi' (Prod.ext this (by simp only; omega))
theorem Cat.notFound {w W : World} {g : Gh} (h : CatB w g) (mf : MapE W g.fm (FK g.ks g.ov g.ks.length)) (m n : Nat) (hm : m < 2) (hno : ∀ j, j < g.ks.length → g.key j ≠ (m, n)) :
    (Instr.lookup 32 (.map (some g.fm)) (.agg #[.string (nmN m), .int .i64 (n : Nat)]) true).run Ybaf.prog W = .ok (.tuple #[.pointer none, .bool false]) W := by
  have := mf.look_none funOK Ybaf.underlying32 (FK_good _ _ _) (key := .agg #[.string (nmN m), .int .i64 (n : Nat)]) ⟨_, _, rfl⟩ (FK_no h m n hm hno) (Ybaf.zeroValue77 W) true
  simpa using this

/-- schemas[schema] = true -/
theorem SL_put {W : World} {sm : Nat} {b3 : Bool} (h : MapE W sm (SL b3)) (s : Nat) (hs : s < 3) :
    ∃ wu b3', (Instr.mapUpdate 33 (.map (some sm)) (.string (scN s)) (.bool true)).run Ybaf.prog W.drew = .ok () wu ∧ MapE wu sm (SL b3') ∧ (s = 2 → b3' = true) ∧ KC (fun x _ => x = sm) W wu := by
  have hg : ∀ p ∈ SL b3, strKey p.1 := by
    intro p hp
    unfold SL at hp
    cases b3 <;> simp at hp
    · rcases hp with rfl | rfl <;> exact ⟨_, rfl, by decide⟩
    · rcases hp with rfl | rfl | rfl <;> exact ⟨_, rfl, by decide⟩
  have hk : strKey (.string (scN s)) := ⟨_, rfl, by have := scN_size s; unfold maxLen; omega⟩
  have n01 : scN 0 ≠ scN 1 := fun h => absurd (congrArg (fun x : ByteArray => x.data.toList) h) (by decide)
  have n02 : scN 0 ≠ scN 2 := fun h => absurd (congrArg (fun x : ByteArray => x.data.toList) h) (by decide)
  have n12 : scN 1 ≠ scN 2 := fun h => absurd (congrArg (fun x : ByteArray => x.data.toList) h) (by decide)
  have hd : MapE W.drew sm (SL b3) := h
  have kd : KC (fun x (_ : Nat) => x = sm) W W.drew := (KC.refl _ W).drew
  have old : ∀ (j0 : Nat), (SL b3)[j0]? = some (.string (scN s), .bool true) → (∀ j v', (SL b3)[j]? = some (.string (scN s), v') → j = j0) → (SL b3).set j0 (.string (scN s), .bool true) = SL b3 → (s = 2 → b3 = true) → ∃ wu b3', (Instr.mapUpdate 33 (.map (some sm)) (.string (scN s)) (.bool true)).run Ybaf.prog W.drew = .ok () wu ∧ MapE wu sm (SL b3') ∧ (s = 2 → b3' = true) ∧ KC (fun x _ => x = sm) W wu := by
    intro j0 hj hu hset h2
    obtain ⟨wu, h1, h3, h4, _⟩ := hd.put_old strOK Ybaf.underlying33 hg hk j0 _ hj hu (.bool true)
    rw [hset] at h3
    exact ⟨wu, b3, h1, h3, h2, kd.trans h4⟩
  have idx : ∀ (L : List (Value × Value)) (j : Nat) (p : Value × Value), L[j]? = some p → j < L.length := fun L j p h => (List.getElem?_eq_some_iff.1 h).1
  have hc : s = 0 ∨ s = 1 ∨ s = 2 := by omega
  have hlen : (SL b3).length ≤ 3 := by unfold SL; cases b3 <;> simp
  rcases hc with rfl | rfl | rfl
  · refine old 0 rfl (fun j v' hj => ?_) rfl (by omega)
    have hj3 := idx _ _ _ hj
    have : j = 0 ∨ j = 1 ∨ j = 2 := by omega
    rcases this with rfl | rfl | rfl
    · rfl
    · unfold SL at hj; simp at hj; exact absurd hj.1.symm n01
    · unfold SL at hj; cases b3 <;> simp at hj; exact absurd hj.1.symm n02
  · refine old 1 rfl (fun j v' hj => ?_) rfl (by omega)
    have hj3 := idx _ _ _ hj
    have : j = 0 ∨ j = 1 ∨ j = 2 := by omega
    rcases this with rfl | rfl | rfl
    · unfold SL at hj; simp at hj; exact absurd hj.1 n01
    · rfl
    · unfold SL at hj; cases b3 <;> simp at hj; exact absurd hj.1.symm n12
  · cases b3 with
    | true =>
      refine old 2 rfl (fun j v' hj => ?_) rfl (fun _ => rfl)
      have hj3 := idx _ _ _ hj
      have : j = 0 ∨ j = 1 ∨ j = 2 := by omega
      rcases this with rfl | rfl | rfl
      · unfold SL at hj; simp at hj; exact absurd hj.1 n02
      · unfold SL at hj; simp at hj; exact absurd hj.1 n12
      · rfl
    | false =>
      obtain ⟨wu, h1, h3, h4, _⟩ := hd.put_new strOK Ybaf.underlying33 hg hk (fun p hp => by
        unfold SL at hp
        simp at hp
        rcases hp with rfl | rfl
        · simpa using n02
        · simpa using n12) (.bool true)
      exact ⟨wu, true, h1, h3, fun _ => rfl, kd.trans h4⟩

/-- The catalog with the new function written, in none of its indexes yet. -/
structure Ready (w : World) (g : Gh) (b3 : Bool) (s m n : Nat) (ka : Nat → Nat) (r : Nat) (φ : Fn) (g5 : Gh) (w5 : World) : Prop where
  cat : Cat w5 g5 b3
  fn : FnOK w5 g5 φ
  ext : Ext w g g5
  fs : g5.fs = g.fs
  ks : g5.ks = g.ks
  is : φ.s = s ∧ φ.m = m ∧ φ.n = n ∧ φ.ka = ka ∧ φ.r = r
  kc : KC (fun b _ => g.kd b ≠ 0) w w5

theorem Ready.nob {w : World} {g : Gh} {b3 : Bool} {s m n : Nat} {ka : Nat → Nat} {r : Nat} {φ : Fn} {g5 : Gh} {w5 w6 : World} (h : Ready w g b3 s m n ka r φ g5 w5) (k : KC nob w5 w6) : Ready w g b3 s m n ka r φ g5 w6 :=
  ⟨h.cat.nob k, h.fn.nob k, h.ext, h.fs, h.ks, h.is, h.kc.trans k.any⟩

/-- The piece's cells as newFunction leaves them. -/
theorem ready_new {w wr w5 : World} {g g4 : Gh} {b3 : Bool} (h4 : Cat wr g4 b3) (x4 : Ext w g g4) (efs : g4.fs = g.fs) (eks : g4.ks = g.ks) (kw4 : KC (fun b _ => g.kd b ≠ 0) w wr) (s m n r : Nat) (ka : Nat → Nat) (hs : s < 3) (hm : m < 2) (hn : n ≤ 100) (hr : r < 7) (hk7 : ∀ j, j < n → ka j < 7) (aO : Option Addr) (ab ao : Nat)
    (haO : (n = 0 ∧ aO = none) ∨ (0 < n ∧ aO = some ⟨ab, ao, none⟩ ∧ g4.kd ab = 4 ∧ (ab = g4.fa.b → ao + n ≤ g4.fa.o) ∧ ∀ j, j < n → wr.cell? ⟨ab, ao + j, none⟩ = some (.pointer (some ⟨g.ty (ka j), 0, none⟩)))) {qb qo L : Nat} {fa : Option Addr}
    (k : KC (fun x y => (x = g4.cb ∧ y = 7) ∨ (x = qb ∧ qo ≤ y ∧ y < qo + 5)) wr w5) (c : qb ≠ g4.cb → w5.cell? ⟨g4.cb, 7, none⟩ = some (.slice fa L L)) (hL : 0 < L → fa = some ⟨qb, qo + 5, none⟩) (hsh : Sh w5 qb 65 (256 * 5)) (e : qo + (1 + L) * 5 = 256 * 5)
    (hcell : ∀ j v, (fcells (scN s) (nmN m) (.slice aO n n) ⟨g.ty r, 0, none⟩ (jn ka n))[j]? = some v → w5.cell? ⟨qb, qo + j, none⟩ = some v)
    (hw : (qb = g4.ff.b ∧ qo = g4.ff.o ∧ L + 1 = g4.ff.len) ∨ (wr.heap.size ≤ qb ∧ qb < w5.heap.size ∧ qo = 0 ∧ g4.ff.len < 1)) :
    ∃ g5, Ready w g b3 s m n ka r ⟨qb, qo, ab, ao, s, m, n, ka, r⟩ g5 w5 := by
  have hw' : (qb = g4.ff.b ∧ qo = g4.ff.o ∧ L + 1 = g4.ff.len) ∨ (wr.heap.size ≤ qb ∧ qo = 0) := by
    rcases hw with q | ⟨q1, _, q2, _⟩
    · exact .inl q
    · exact .inr ⟨q1, q2⟩
  obtain ⟨g5, h5, e5, x5, kq, lq⟩ := h4.body.newf k c hL hsh e hw'
  have hb := h4.body
  have hkq : g4.kd qb = 3 ∨ (wr.heap.size ≤ qb) := by
    rcases hw' with ⟨q1, q2, q3⟩ | ⟨q1, _⟩
    · exact .inl (by rw [q1]; exact hb.kff (by omega))
    · exact .inr q1
  have ne3 : ∀ x, x < wr.heap.size → g4.kd x ≠ 3 → x ≠ qb := fun x hx hk e => by
    rcases hkq with q | q
    · exact hk (by rw [e]; exact q)
    · omega
  have lcb := hb.scb.lt
  have hk1 := hb.kcb
  have htop : Cat w5 g5 b3 := h4.top k (fun o ho q => by
      rcases q with ⟨_, q⟩ | ⟨q, _⟩
      · omega
      · exact ne3 _ lcb (by omega) q)
    (fun x y q => by
      rcases q with ⟨q, _⟩ | ⟨q, _⟩
      · rw [q]; omega
      · rw [q]
        rcases hkq with q1 | q1
        · omega
        · rw [hb.beyond _ q1]; decide) h5 x5 (by rw [e5]) (by rw [e5]) (by rw [e5])
  have ety : g5.ty = g.ty := x5.ty.trans x4.ty
  refine ⟨g5, htop, ⟨fun j v hj => ?_, fun j hj => ?_, kq, fun h0 => ?_, lq, fun h0 => ?_, hs, hm, hn, hr, hk7⟩, x4.trans x5 kw4.size, (by rw [e5]; exact efs), (by rw [e5]; exact eks), ⟨rfl, rfl, rfl, rfl, rfl⟩, kw4.transNew k (fun x y q => ?_)⟩
  · refine hcell j v ?_
    rw [ety] at hj
    have hav : Fn.av ⟨qb, qo, ab, ao, s, m, n, ka, r⟩ = .slice aO n n := by
      unfold Fn.av
      simp only
      rcases haO with ⟨q1, q2⟩ | ⟨q1, q2, _⟩
      · rw [if_pos q1, q1, q2]
      · rw [if_neg (by omega), q2]
    rw [hav] at hj
    exact hj
  · rcases haO with ⟨q1, q2⟩ | ⟨q1, q2, q3, q4, q5⟩
    · have : j < n := hj
      omega
    · rw [ety]
      have hl := block_lt_of_cell (q5 j hj)
      refine k.cell _ _ _ (fun q => ?_) (q5 j hj)
      rcases q with ⟨q, _⟩ | ⟨q, _⟩
      · have q' : ab = g4.cb := q
        rw [q'] at q3; omega
      · exact ne3 _ hl (by show g4.kd ab ≠ 3; omega) q
  · rcases haO with ⟨q1, q2⟩ | ⟨q1, q2, q3, q4, q5⟩
    · have : 0 < n := h0
      omega
    · have hl := block_lt_of_cell (q5 0 q1)
      exact (x5.kd _ hl).trans q3
  · rcases haO with ⟨q1, q2⟩ | ⟨q1, q2, q3, q4, q5⟩
    · have : 0 < n := h0
      omega
    · rw [e5]; exact q4
  · by_cases hx : x < w.heap.size
    · refine .inl ?_
      rw [← x4.kd x hx]
      rcases q with ⟨q, _⟩ | ⟨q, _⟩
      · rw [q]; omega
      · have := kw4.size
        rcases hkq with q1 | q1
        · rw [q]; omega
        · omega
    · exact .inr (by omega)

/-- The end of a call that adds: the schema set, the count raised. -/
theorem made_end {w w7 wu : World} {g g7 : Gh} {b3 b3' : Bool} (s m n r : Nat) (ka : Nat → Nat) (φ : Fn) (h7 : CatB w7 g7) (x7 : Ext w g g7) (efs : g7.fs = g.fs ++ [φ]) (is : φ.s = s ∧ φ.m = m ∧ φ.n = n ∧ φ.ka = ka ∧ φ.r = r)
    (hks : ((∃ j, j < g.ks.length ∧ g.key j = (m, n)) ∧ g7.ks = g.ks) ∨ ((∀ j, j < g.ks.length → g.key j ≠ (m, n)) ∧ g7.ks = g.ks ++ [(m, n)])) (k7 : KC (fun b _ => g.kd b ≠ 0) w w7)
    (c2 : w7.cell? ⟨g7.cb, 2, none⟩ = some (.map (some g7.fm))) (c3 : w7.cell? ⟨g7.cb, 3, none⟩ = some (.map (some g7.sm))) (c5 : ∃ v, w7.cell? ⟨g7.cb, 5, none⟩ = some v) (mf : MapE w7 g7.fm (FK g7.ks g7.ov g7.ks.length))
    (ku : KC (fun x _ => x = g7.sm) w7 wu) (mu : MapE wu g7.sm (SL b3')) (hb3 : s = 2 → b3' = true) :
    Made g s m n ka r w (.returned (.tuple #[.pointer (some φ.ad), .nilIface])) (wu.setCell ⟨g7.cb, 5, none⟩ (.int .i64 (g7.fs.length : Nat))) := by
  have hk1 := h7.kcb
  have hk8 := h7.kfm
  have hk9 := h7.ksm
  have lcb := h7.scb.lt
  have kne : ∀ {x y : Nat}, g7.kd x ≠ g7.kd y → x ≠ y := fun hxy e => hxy (by rw [e])
  have ncs : g7.cb ≠ g7.sm := kne (by omega)
  have nfs : g7.fm ≠ g7.sm := kne (by omega)
  have nfc : g7.fm ≠ g7.cb := kne (by omega)
  have nsc : g7.sm ≠ g7.cb := kne (by omega)
  have kS : KC (fun x y => x = g7.cb ∧ y = 5) wu (wu.setCell ⟨g7.cb, 5, none⟩ (.int .i64 (g7.fs.length : Nat))) := KC.set1 _ _ _ _ ⟨rfl, rfl⟩
  have kT : KC (fun x y => (x = g7.cb ∧ y = 5) ∨ x = g7.fm ∨ x = g7.sm) w7 (wu.setCell ⟨g7.cb, 5, none⟩ (.int .i64 (g7.fs.length : Nat))) := (ku.mono fun x y _ q => .inr (.inr q)).trans (kS.mono fun x y _ q => .inl q)
  obtain ⟨v5, hv5⟩ := c5
  have u5 := ku.cell _ _ _ (fun q => ncs q) hv5
  refine ⟨φ, g7, b3', rfl, ⟨h7.tops kT, ?_, ?_, ?_, ?_, ?_⟩, x7, efs, is, hks, hb3, k7.transNew kT (fun x y q => ?_)⟩
  · exact kS.cell _ _ _ (fun q => by omega) (ku.cell _ _ _ (fun q => ncs q) c2)
  · exact kS.cell _ _ _ (fun q => by omega) (ku.cell _ _ _ (fun q => ncs q) c3)
  · exact World.cell?_setCell_same _ _ _ u5
  · exact (mf.kc ku (fun o q => nfs q)).kc kS (fun o q => nfc q.1)
  · exact mu.kc kS (fun o q => nsc q.1)
  · by_cases hx : x < w.heap.size
    · refine .inl ?_
      rw [← x7.kd x hx]
      rcases q with ⟨q, _⟩ | q | q <;> rw [q] <;> omega
    · exact .inr (by omega)

/-- What Own2 leaves alone. -/
theorem Own2.no {w : World} {g : Gh} (h : CatB w g) {j s : Nat} (hj : j < g.ks.length) {b o : Nat} (q : Own2 g j s b o) : g.kd b ≠ 0 ∧ g.kd b ≠ 8 ∧ g.kd b ≠ 9 ∧ g.kd b ≠ 3 ∧ (g.kd b = 1 → o = 10) := by
  have k5 := (h.ovs j hj).kb
  have k1 := h.kcb
  rcases q with ⟨q, _⟩ | ⟨q, q2⟩ | ⟨q, _⟩ | q | q | ⟨_, q⟩
  · rw [q]; omega
  · rw [q]; omega
  · omega
  · simp only [KL] at q; omega
  · simp only [KM] at q; omega
  · simp only [KX] at q; omega
end Go.Proofs.YbulkzmgFmt.Sc
