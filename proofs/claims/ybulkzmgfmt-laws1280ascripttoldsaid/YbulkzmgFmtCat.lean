import Derived.Test.YbulkzmgFmtOv
namespace Go.Proofs.YbulkzmgFmt.Sc
open Go.RowKit Go.Extern.Stop Go.Stop Go.Extern
set_option linter.unusedVariables false

/-- A function of the catalog: where it lies, where its argument types lie, what it is. -/
structure Fn where
  b : Nat
  o : Nat
  ab : Nat
  ao : Nat
  s : Nat
  m : Nat
  n : Nat
  ka : Nat → Nat
  r : Nat
def fn0 : Fn := ⟨0, 0, 0, 0, 0, 0, 0, fun _ => 0, 0⟩
def Fn.av (φ : Fn) : Value := if φ.n = 0 then .slice none 0 0 else .slice (some ⟨φ.ab, φ.ao, none⟩) φ.n φ.n
def Fn.li (φ : Fn) : ByteArray := jn φ.ka φ.n
def Fn.ad (φ : Fn) : Addr := ⟨φ.b, φ.o, none⟩

/-- The free rest of a chunk. -/
structure Fr where
  b : Nat
  o : Nat
  len : Nat

/-- The catalog as it is thought: blocks, types, functions in the order in which they came, keys, overloads, lists, free rests, and what each block is for. -/
structure Gh where
  cb : Nat
  tm : Nat
  fm : Nat
  sm : Nat
  ty : Nat → Nat
  fs : List Fn
  ks : List (Nat × Nat)
  ov : Nat → Nat × Nat
  ss : Nat → Nat → SS
  xm : Nat → Nat
  ff : Fr
  fa : Fr
  fo : Fr
  fl : Fr
  kd : Nat → Nat

def grp (fs : List Fn) (k : Nat × Nat) (s : Nat) : List Fn := fs.filter fun φ => decide (φ.m = k.1 ∧ φ.n = k.2 ∧ φ.s = s)
def adf (L : List Fn) (j : Nat) : Addr := (L.getD j fn0).ad
def lif (L : List Fn) (j : Nat) : ByteArray := (L.getD j fn0).li
def Gh.key (g : Gh) (j : Nat) : Nat × Nat := g.ks.getD j (0, 0)
def Gh.gr (g : Gh) (j s : Nat) : List Fn := grp g.fs (g.key j) s
def KL (j s : Nat) : Nat := 10 + 8 * j + s
def KM (j s : Nat) : Nat := 13 + 8 * j + s
def KX (j : Nat) : Nat := 16 + 8 * j

structure FnOK (w : World) (g : Gh) (φ : Fn) : Prop where
  cells : ∀ j v, (fcells (scN φ.s) (nmN φ.m) φ.av ⟨g.ty φ.r, 0, none⟩ φ.li)[j]? = some v → w.cell? ⟨φ.b, φ.o + j, none⟩ = some v
  args : ∀ j, j < φ.n → w.cell? ⟨φ.ab, φ.ao + j, none⟩ = some (.pointer (some ⟨g.ty (φ.ka j), 0, none⟩))
  kb : g.kd φ.b = 3
  ka : 0 < φ.n → g.kd φ.ab = 4
  lb : φ.b = g.ff.b → φ.o + 5 ≤ g.ff.o
  la : 0 < φ.n → φ.ab = g.fa.b → φ.ao + φ.n ≤ g.fa.o
  bd : φ.s < 3 ∧ φ.m < 2 ∧ φ.n ≤ 100 ∧ φ.r < 7 ∧ ∀ j, j < φ.n → φ.ka j < 7

structure SoAt (w : World) (g : Gh) (L : List Fn) (j s : Nat) (lv mv : Value) : Prop where
  so : SO w lv mv L.length (adf L) (lif L) (g.ss j s)
  kl : 0 < L.length → g.kd (g.ss j s).b = KL j s ∨ (g.kd (g.ss j s).b = 6 ∧ ((g.ss j s).b = g.fl.b → (g.ss j s).o < g.fl.o) ∧ (g.ss j s).cap = 1)
  km : 8 < L.length → g.kd (g.ss j s).mb = KM j s

structure OvOK (w : World) (g : Gh) (j : Nat) : Prop where
  sh : Sh w (g.ov j).1 84 (256 * 6)
  kb : g.kd (g.ov j).1 = 5
  lb : (g.ov j).1 = g.fo.b → (g.ov j).2 + 6 ≤ g.fo.o
  s01 : ∀ s, s < 2 → ∃ lv mv, w.cell? ⟨(g.ov j).1, (g.ov j).2 + (1 + 2 * s), none⟩ = some lv ∧ w.cell? ⟨(g.ov j).1, (g.ov j).2 + (1 + 2 * s) + 1, none⟩ = some mv ∧ SoAt w g (g.gr j s) j s lv mv
  s2 : (g.gr j 2 = [] ∧ w.cell? ⟨(g.ov j).1, (g.ov j).2 + 5, none⟩ = some (.map none)) ∨
    (g.gr j 2 ≠ [] ∧ w.cell? ⟨(g.ov j).1, (g.ov j).2 + 5, none⟩ = some (.map (some (g.xm j))) ∧ g.kd (g.xm j) = KX j ∧ ∃ lv mv, MapE w (g.xm j) [(.string (scN 2), .agg #[lv, mv])] ∧ SoAt w g (g.gr j 2) j 2 lv mv)

structure CatB (w : World) (g : Gh) : Prop where
  beyond : ∀ b, w.heap.size ≤ b → g.kd b = 0
  kcb : g.kd g.cb = 1
  ktm : g.kd g.tm = 7
  kfm : g.kd g.fm = 8
  ksm : g.kd g.sm = 9
  kty : ∀ k, k < 7 → g.kd (g.ty k) = 2
  scb : Sh w g.cb 49 11
  c0 : w.cell? ⟨g.cb, 0, none⟩ = some (.map (some g.tm))
  tys : ∀ k, k < 7 → w.cell? ⟨g.ty k, 0, none⟩ = some (.string (tyN k))
  mt : MapE w g.tm (TL g.ty)
  fns : ∀ φ ∈ g.fs, FnOK w g φ
  ovs : ∀ j, j < g.ks.length → OvOK w g j
  ovd : ∀ i j, i < g.ks.length → j < g.ks.length → i ≠ j → (g.ov i).1 ≠ (g.ov j).1 ∨ (g.ov i).2 + 6 ≤ (g.ov j).2 ∨ (g.ov j).2 + 6 ≤ (g.ov i).2
  kdis : ∀ i j, i < g.ks.length → j < g.ks.length → g.key i = g.key j → i = j
  kin : ∀ φ ∈ g.fs, ∃ j, j < g.ks.length ∧ g.key j = (φ.m, φ.n)
  kbd : ∀ j, j < g.ks.length → (g.key j).1 < 2 ∧ (g.key j).2 ≤ 100
  nodup : g.fs.Pairwise (fun φ ψ => ¬ (φ.s = ψ.s ∧ φ.m = ψ.m ∧ φ.n = ψ.n ∧ φ.li = ψ.li))
  Ff : Free w g.cb 7 65 5 g.ff.b g.ff.o g.ff.len
  Fa : Free w g.cb 8 34 1 g.fa.b g.fa.o g.fa.len
  Fo : Free w g.cb 9 84 6 g.fo.b g.fo.o g.fo.len
  Fl : Free w g.cb 10 57 1 g.fl.b g.fl.o g.fl.len
  kff : 0 < g.ff.len → g.kd g.ff.b = 3
  kfa : 0 < g.fa.len → g.kd g.fa.b = 4
  kfo : 0 < g.fo.len → g.kd g.fo.b = 5
  kfl : 0 < g.fl.len → g.kd g.fl.b = 6
  fz : ∀ i, i < g.fo.len * 6 → w.cell? ⟨g.fo.b, g.fo.o + i, none⟩ = oz[i % 6]?

/-- What may be written without the catalog's body turning: the head's other cells, the two maps besides, blocks that are not the catalog's, free room. -/
def Safe (g : Gh) (b o : Nat) : Prop :=
  (b = g.cb ∧ o ≠ 0) ∨ b = g.fm ∨ b = g.sm ∨ g.kd b = 0 ∨ (g.kd b = 3 ∧ b = g.ff.b ∧ g.ff.o ≤ o) ∨ (g.kd b = 4 ∧ b = g.fa.b ∧ g.fa.o ≤ o) ∨ (g.kd b = 5 ∧ b = g.fo.b ∧ g.fo.o ≤ o) ∨ (g.kd b = 6 ∧ b = g.fl.b ∧ g.fl.o ≤ o)

theorem CatB.safe {w : World} {g : Gh} (h : CatB w g) {b o : Nat} (hs : Safe g b o) : (g.kd b = 1 ∧ b = g.cb ∧ o ≠ 0) ∨ g.kd b = 8 ∨ g.kd b = 9 ∨ g.kd b = 0 ∨ (g.kd b = 3 ∧ b = g.ff.b ∧ g.ff.o ≤ o) ∨ (g.kd b = 4 ∧ b = g.fa.b ∧ g.fa.o ≤ o) ∨ (g.kd b = 5 ∧ b = g.fo.b ∧ g.fo.o ≤ o) ∨ (g.kd b = 6 ∧ b = g.fl.b ∧ g.fl.o ≤ o) := by
  rcases hs with ⟨h1, h2⟩ | h1 | h1 | h1
  · exact .inl ⟨by rw [h1]; exact h.kcb, h1, h2⟩
  · exact .inr (.inl (by rw [h1]; exact h.kfm))
  · exact .inr (.inr (.inl (by rw [h1]; exact h.ksm)))
  · exact .inr (.inr (.inr h1))

def Adv (w : World) (a a' : Fr) : Prop := (a'.b = a.b ∧ a.o ≤ a'.o) ∨ w.heap.size ≤ a'.b

theorem SoAt.frame {w w' : World} {g : Gh} (h : CatB w g) {own : Nat → Nat → Prop} (k : KC own w w') (hown : ∀ b o, b < w.heap.size → own b o → Safe g b o) {fl' : Fr} {kd' : Nat → Nat} (ff' fa' fo' : Fr) (hkd : ∀ b, b < w.heap.size → kd' b = g.kd b) (al : Adv w g.fl fl') {L : List Fn} {j s : Nat} {lv mv : Value} (hs : s < 3) (a : SoAt w g L j s lv mv) :
    SoAt w' { g with ff := ff', fa := fa', fo := fo', fl := fl', kd := kd' } L j s lv mv := by
  have hb : 0 < L.length → (g.ss j s).b < w.heap.size := fun h0 => by
    rcases a.so with ⟨h1, _⟩ | ⟨_, _, hv, _⟩
    · omega
    · have := block_lt_of_cell (hv.cell 0 h0); simpa using this
  have hmb : 8 < L.length → (g.ss j s).mb < w.heap.size := fun h8 => by
    rcases a.so with ⟨h1, _⟩ | ⟨_, _, _, hm⟩
    · omega
    · rcases hm with ⟨h1, _⟩ | ⟨_, _, hm⟩
      · omega
      · exact hm.lt
  refine ⟨a.so.kc k ?_ ?_, fun h0 => ?_, fun h8 => ?_⟩
  · intro h0 i hi ho
    rcases a.so with ⟨h1, _⟩ | ⟨_, _, hv, _⟩
    · omega
    · have hS := h.safe (hown _ _ (hb h0) ho)
      have hle := hv.le
      rcases a.kl h0 with e | ⟨e, e2, e3⟩
      · simp only [KL] at e
        rcases hS with ⟨h1, _⟩ | h1 | h1 | h1 | ⟨h1, _⟩ | ⟨h1, _⟩ | ⟨h1, _⟩ | ⟨h1, _⟩ <;> omega
      · rcases hS with ⟨h1, _⟩ | h1 | h1 | h1 | ⟨h1, _⟩ | ⟨h1, _⟩ | ⟨h1, _⟩ | ⟨h1, h2, h3⟩ <;> first | omega | (have := e2 h2; omega)
  · intro h8 o ho
    have hS := h.safe (hown _ _ (hmb h8) ho)
    have e := a.km h8
    simp only [KM] at e
    rcases hS with ⟨h1, _⟩ | h1 | h1 | h1 | ⟨h1, _⟩ | ⟨h1, _⟩ | ⟨h1, _⟩ | ⟨h1, _⟩ <;> omega
  · show kd' (g.ss j s).b = _ ∨ (kd' (g.ss j s).b = _ ∧ _)
    rw [hkd _ (hb h0)]
    rcases a.kl h0 with e | ⟨e, e2, e3⟩
    · exact .inl e
    · refine .inr ⟨e, fun hbl => ?_, e3⟩
      have hbl' : (g.ss j s).b = fl'.b := hbl
      show (g.ss j s).o < fl'.o
      have := hb h0
      rcases al with ⟨h1, h2⟩ | h1
      · have := e2 (hbl'.trans h1); omega
      · omega
  · show kd' (g.ss j s).mb = _
    rw [hkd _ (hmb h8)]
    exact a.km h8

theorem CatB.frame {w w' : World} {g : Gh} (h : CatB w g) {own : Nat → Nat → Prop} (k : KC own w w') (hown : ∀ b o, b < w.heap.size → own b o → Safe g b o) (ff' fa' fo' fl' : Fr) (kd' : Nat → Nat) (hkd : ∀ b, b < w.heap.size → kd' b = g.kd b) (hbe : ∀ b, w'.heap.size ≤ b → kd' b = 0)
    (af : Adv w g.ff ff') (aa : Adv w g.fa fa') (ao : Adv w g.fo fo') (al : Adv w g.fl fl')
    (Ff : Free w' g.cb 7 65 5 ff'.b ff'.o ff'.len) (Fa : Free w' g.cb 8 34 1 fa'.b fa'.o fa'.len) (Fo : Free w' g.cb 9 84 6 fo'.b fo'.o fo'.len) (Fl : Free w' g.cb 10 57 1 fl'.b fl'.o fl'.len)
    (kff : 0 < ff'.len → kd' ff'.b = 3) (kfa : 0 < fa'.len → kd' fa'.b = 4) (kfo : 0 < fo'.len → kd' fo'.b = 5) (kfl : 0 < fl'.len → kd' fl'.b = 6)
    (fz : ∀ i, i < fo'.len * 6 → w'.cell? ⟨fo'.b, fo'.o + i, none⟩ = oz[i % 6]?) :
    CatB w' { g with ff := ff', fa := fa', fo := fo', fl := fl', kd := kd' } := by
  have no : ∀ {b o : Nat}, b < w.heap.size → own b o → _ := fun hb ho => h.safe (hown _ _ hb ho)
  have ltcb := h.scb.lt
  have lttm := h.mt.lt
  have lty : ∀ k, k < 7 → g.ty k < w.heap.size := fun k hk => by have := block_lt_of_cell (h.tys k hk); simpa using this
  have in0 : ∀ x : Nat, g.kd x ≠ 0 → x < w.heap.size := fun x hx => Nat.lt_of_not_le fun hle => hx (h.beyond x hle)
  have lfm : g.fm < w.heap.size := in0 _ (by rw [h.kfm]; decide)
  have lsm : g.sm < w.heap.size := in0 _ (by rw [h.ksm]; decide)
  refine ⟨hbe, (hkd _ ltcb).trans h.kcb, (hkd _ lttm).trans h.ktm, (hkd _ lfm).trans h.kfm, (hkd _ lsm).trans h.ksm, fun i hi => (hkd _ (lty i hi)).trans (h.kty i hi), k.shape _ _ _ h.scb, ?_, ?_, ?_, ?_, ?_, h.ovd, h.kdis, h.kin, h.kbd, h.nodup, Ff, Fa, Fo, Fl, kff, kfa, kfo, kfl, fz⟩
  · refine k.cell _ _ _ (fun ho => ?_) h.c0
    have e := h.kcb
    rcases no ltcb ho with ⟨h1, h2, h3⟩ | h1 | h1 | h1 | ⟨h1, _⟩ | ⟨h1, _⟩ | ⟨h1, _⟩ | ⟨h1, _⟩ <;> omega
  · intro i hi
    refine k.cell _ _ _ (fun ho => ?_) (h.tys i hi)
    have e := h.kty i hi
    rcases no (lty i hi) ho with ⟨h1, _⟩ | h1 | h1 | h1 | ⟨h1, _⟩ | ⟨h1, _⟩ | ⟨h1, _⟩ | ⟨h1, _⟩ <;> omega
  · refine h.mt.kc k (fun o ho => ?_)
    have e := h.ktm
    rcases no lttm ho with ⟨h1, _⟩ | h1 | h1 | h1 | ⟨h1, _⟩ | ⟨h1, _⟩ | ⟨h1, _⟩ | ⟨h1, _⟩ <;> omega
  · intro φ hφ
    have f := h.fns φ hφ
    have lb : φ.b < w.heap.size := in0 _ (by rw [f.kb]; decide)
    have la : 0 < φ.n → φ.ab < w.heap.size := fun hn => in0 _ (by rw [f.ka hn]; decide)
    refine ⟨fun j v hj => k.cell _ _ _ (fun ho => ?_) (f.cells j v hj), fun j hj => k.cell _ _ _ (fun ho => ?_) (f.args j hj), (hkd _ lb).trans f.kb, fun hn => (hkd _ (la hn)).trans (f.ka hn), fun e => ?_, fun hn e => ?_, f.bd⟩
    · have e := f.kb
      have hj5 : j < 5 := (List.getElem?_eq_some_iff.1 hj).1
      rcases no lb ho with ⟨h1, _⟩ | h1 | h1 | h1 | ⟨h1, h2, h3⟩ | ⟨h1, _⟩ | ⟨h1, _⟩ | ⟨h1, _⟩ <;> first | omega | (have := f.lb h2; omega)
    · have hn : 0 < φ.n := by omega
      have e := f.ka hn
      rcases no (la hn) ho with ⟨h1, _⟩ | h1 | h1 | h1 | ⟨h1, _⟩ | ⟨h1, h2, h3⟩ | ⟨h1, _⟩ | ⟨h1, _⟩ <;> first | omega | (have := f.la hn h2; omega)
    · have e' : φ.b = ff'.b := e
      show φ.o + 5 ≤ ff'.o
      rcases af with ⟨h1, h2⟩ | h1
      · have := f.lb (e'.trans h1); omega
      · omega
    · have e' : φ.ab = fa'.b := e
      show φ.ao + φ.n ≤ fa'.o
      rcases aa with ⟨h1, h2⟩ | h1
      · have := f.la hn (e'.trans h1); omega
      · have := la hn; omega
  · intro j hj
    have q := h.ovs j hj
    have lb := q.sh.lt
    have noov : ∀ y, y < 6 → ¬ own (g.ov j).1 ((g.ov j).2 + y) := fun y hy ho => by
      have e := q.kb
      rcases no lb ho with ⟨h1, _⟩ | h1 | h1 | h1 | ⟨h1, _⟩ | ⟨h1, _⟩ | ⟨h1, h2, h3⟩ | ⟨h1, _⟩ <;> first | omega | (have := q.lb h2; omega)
    refine ⟨k.shape _ _ _ q.sh, (hkd _ lb).trans q.kb, fun e => ?_, fun s hs => ?_, ?_⟩
    · have e' : (g.ov j).1 = fo'.b := e
      show (g.ov j).2 + 6 ≤ fo'.o
      rcases ao with ⟨h1, h2⟩ | h1
      · have := q.lb (e'.trans h1); omega
      · omega
    · obtain ⟨lv, mv, c1, c2, a⟩ := q.s01 s hs
      exact ⟨lv, mv, k.cell _ _ _ (noov _ (by omega)) c1, k.cell _ _ _ (by rw [Nat.add_assoc]; exact noov _ (by omega)) c2, SoAt.frame h k hown ff' fa' fo' hkd al (by omega) a⟩
    · rcases q.s2 with ⟨e, c⟩ | ⟨e, c, kx, lv, mv, hm, a⟩
      · exact .inl ⟨e, k.cell _ _ _ (noov 5 (by omega)) c⟩
      · refine .inr ⟨e, k.cell _ _ _ (noov 5 (by omega)) c, (hkd _ hm.lt).trans kx, lv, mv, hm.kc k (fun o ho => ?_), SoAt.frame h k hown ff' fa' fo' hkd al (by omega) a⟩
        simp only [KX] at kx
        rcases no hm.lt ho with ⟨h1, _⟩ | h1 | h1 | h1 | ⟨h1, _⟩ | ⟨h1, _⟩ | ⟨h1, _⟩ | ⟨h1, _⟩ <;> omega
end Go.Proofs.YbulkzmgFmt.Sc
