import Derived.Test.YbulkzmgFmtText
namespace Go.Proofs.YbulkzmgFmt.Sc
open Go.RowKit Go.Extern.Stop Go.Stop Go.Extern
set_option linter.unusedVariables false

/-- The builder of newFunction. -/
def Bld (w0 : World) (b : Nat) (bs : List Value) (w : World) : Prop := Lib.IsBuilder 95 5 w0.heap.size b bs w ∧ Below w0.heap.size w0 w

theorem bld_ws {w0 w : World} {b : Nat} {bs : List Value} (s : ByteArray) (h : Bld w0 b bs w) (hl : bs.length + s.size ≤ 100000) :
    Calls Ybaf.prog 23 #[.pointer (some ⟨b, 0, none⟩), .string s] w fun e w' => e = .returned (.tuple #[.int .i64 s.size, .nilIface]) ∧ Bld w0 b (bs ++ Lib.strCells s) w' :=
  (Ybaf.Builder_WriteString w0.heap.size b bs s w h.1 (by omega) h.2.size).mono fun e w' ⟨h1, h2, h3⟩ => ⟨h1, .inr h2, h.2.trans h3⟩
theorem bld_wb {w0 w : World} {b : Nat} {bs : List Value} (c : Int) (h : Bld w0 b bs w) (hl : bs.length ≤ 100000) :
    Calls Ybaf.prog 24 #[.pointer (some ⟨b, 0, none⟩), .int .u8 c] w fun e w' => e = .returned .nilIface ∧ Bld w0 b (bs ++ [.int .u8 c]) w' :=
  (Ybaf.Builder_WriteByte w0.heap.size b bs c w h.1 (by omega) h.2.size).mono fun e w' ⟨h1, h2, h3⟩ => ⟨h1, .inr h2, h.2.trans h3⟩
theorem bld_grow (w0 : World) (n : Nat) (hn : n ≤ 100000) :
    Calls Ybaf.prog 21 #[.pointer (some ⟨w0.heap.size, 0, none⟩), .int .i64 n] (w0.alloc (.cells #[.pointer none, .slice none 0 0] 95)) fun e w' => e = .returned (.tuple #[]) ∧ Bld w0 w0.heap.size [] w' :=
  (Ybaf.Builder_Grow_fresh w0.heap.size w0.heap.size n _ (Nat.le_refl _) (heap_alloc_new _ _) (by simp) (by omega)).mono fun e w' ⟨h1, h2, h3⟩ => ⟨h1, .inr h2, ((Below.refl _ w0).alloc (Nat.le_refl _) _).trans h3⟩
theorem bld_str {w0 w : World} {b : Nat} (t : ByteArray) (h : Bld w0 b (Lib.byteCells t.data.toList) w) :
    Calls Ybaf.prog 26 #[.pointer (some ⟨b, 0, none⟩)] w fun e w' => e = .returned (.string t) ∧ Below w0.heap.size w0 w' :=
  (Ybaf.Builder_String_any w0.heap.size b t.data.toList w h.1 h.2.size).mono fun e w' ⟨h1, h3⟩ => ⟨h1.trans (by simp), h.2.trans h3⟩
theorem bld_wt {w0 w : World} {b : Nat} {bs : List Value} {a : Option Addr} {cap n : Nat} {ka ty : Nat → Nat} (h : Bld w0 b bs w) (hp : Ptrs w0 a n (fun j => ⟨ty (ka j), 0, none⟩)) (ht : ∀ j, j < n → w0.cell? ⟨ty (ka j), 0, none⟩ = some (.string (tyN (ka j))))
    (ha : ∀ b o, a = some ⟨b, o, none⟩ → b < w0.heap.size) (hn : n ≤ 100) (hbs : bs.length ≤ 1000) :
    Calls Ybaf.prog 25 #[.pointer (some ⟨b, 0, none⟩), .slice a n cap] w fun e w' => e = .returned (.tuple #[]) ∧ Bld w0 b (bs ++ Lib.strCells (jn ka n)) w' :=
  (write25 w0.heap.size b bs a cap n ka ty w h.1 h.2.size (ptrs_below hp h.2 ha) (fun j hj => (h.2.cell (block_lt_of_cell (ht j hj))).trans (ht j hj)) ha (fun j hj => block_lt_of_cell (ht j hj)) hn hbs).mono fun e w' ⟨h1, h2, h3⟩ => ⟨h1, h2, h.2.trans h3⟩

/-- The five cells of a function. -/
def fcells (s m : ByteArray) (av : Value) (r : Addr) (l : ByteArray) : List Value := [.string s, .string m, av, .pointer (some r), .string (txt s m l)]

theorem set5 (w : World) (b o : Nat) (v0 v1 v2 v3 v4 : Value) (t : TypeId) (N : Nat) (h : Sh w b t N) (ho : o + 5 ≤ N) : ∀ j v, [v0, v1, v2, v3, v4][j]? = some v →
    (((((w.setCell ⟨b, o, none⟩ v0).setCell ⟨b, o + 1, none⟩ v1).setCell ⟨b, o + 2, none⟩ v2).setCell ⟨b, o + 3, none⟩ v3).setCell ⟨b, o + 4, none⟩ v4).cell? ⟨b, o + j, none⟩ = some v := by
  obtain ⟨cs, hb, hn⟩ := h
  intro j v hj
  have hj5 : j < 5 := (List.getElem?_eq_some_iff.1 hj).1
  have hc : ∀ i, o + i < N → ∃ u, w.cell? ⟨b, o + i, none⟩ = some u := fun i hi => Sh.some ⟨cs, hb, hn⟩ hi
  have ne : ∀ x y : Nat, x ≠ y → (⟨b, x, none⟩ : Addr) ≠ ⟨b, y, none⟩ := fun x y h e => h (by cases e; rfl)
  obtain ⟨u, hu⟩ := hc j (by omega)
  have : j = 0 ∨ j = 1 ∨ j = 2 ∨ j = 3 ∨ j = 4 := by omega
  rcases this with rfl | rfl | rfl | rfl | rfl <;> simp only [List.getElem?_cons_zero, List.getElem?_cons_succ, Option.some.injEq] at hj <;> subst hj
  · rw [World.cell?_setCell_other _ _ _ _ (ne _ _ (by omega)), World.cell?_setCell_other _ _ _ _ (ne _ _ (by omega)), World.cell?_setCell_other _ _ _ _ (ne _ _ (by omega)), World.cell?_setCell_other _ _ _ _ (ne _ _ (by omega))]
    exact World.cell?_setCell_same _ _ _ hu
  · rw [World.cell?_setCell_other _ _ _ _ (ne _ _ (by omega)), World.cell?_setCell_other _ _ _ _ (ne _ _ (by omega)), World.cell?_setCell_other _ _ _ _ (ne _ _ (by omega))]
    exact World.cell?_setCell_same _ _ _ ((World.cell?_setCell_other _ _ _ _ (ne _ _ (by omega))).trans hu)
  · rw [World.cell?_setCell_other _ _ _ _ (ne _ _ (by omega)), World.cell?_setCell_other _ _ _ _ (ne _ _ (by omega))]
    exact World.cell?_setCell_same _ _ _ ((World.cell?_setCell_other _ _ _ _ (ne _ _ (by omega))).trans ((World.cell?_setCell_other _ _ _ _ (ne _ _ (by omega))).trans hu))
  · rw [World.cell?_setCell_other _ _ _ _ (ne _ _ (by omega))]
    exact World.cell?_setCell_same _ _ _ ((World.cell?_setCell_other _ _ _ _ (ne _ _ (by omega))).trans ((World.cell?_setCell_other _ _ _ _ (ne _ _ (by omega))).trans ((World.cell?_setCell_other _ _ _ _ (ne _ _ (by omega))).trans hu)))
  · exact World.cell?_setCell_same _ _ _ ((World.cell?_setCell_other _ _ _ _ (ne _ _ (by omega))).trans ((World.cell?_setCell_other _ _ _ _ (ne _ _ (by omega))).trans ((World.cell?_setCell_other _ _ _ _ (ne _ _ (by omega))).trans ((World.cell?_setCell_other _ _ _ _ (ne _ _ (by omega))).trans hu))))
theorem set5_other (w : World) (b o c q : Nat) (v0 v1 v2 v3 v4 : Value) (h : b ≠ c) :
    (((((w.setCell ⟨b, o, none⟩ v0).setCell ⟨b, o + 1, none⟩ v1).setCell ⟨b, o + 2, none⟩ v2).setCell ⟨b, o + 3, none⟩ v3).setCell ⟨b, o + 4, none⟩ v4).cell? ⟨c, q, none⟩ = w.cell? ⟨c, q, none⟩ := by
  have ne : ∀ x : Nat, (⟨b, x, none⟩ : Addr) ≠ ⟨c, q, none⟩ := fun x e => h (by cases e; rfl)
  rw [World.cell?_setCell_other _ _ _ _ (ne _), World.cell?_setCell_other _ _ _ _ (ne _), World.cell?_setCell_other _ _ _ _ (ne _), World.cell?_setCell_other _ _ _ _ (ne _), World.cell?_setCell_other _ _ _ _ (ne _)]

set_option maxRecDepth 20000 in
set_option maxHeartbeats 3200000 in
theorem newf12 (cb fb fo len : Nat) (fa : Option Addr) (s m : ByteArray) (a : Option Addr) (n cap : Nat) (ka ty : Nat → Nat) (r : Addr) (w : World)
    (hs : Sh w cb 49 11) (hq : w.cell? ⟨cb, 7, none⟩ = some (.slice fa len len)) (hfa : 0 < len → fa = some ⟨fb, fo, none⟩ ∧ Sh w fb 65 (256 * 5) ∧ fo + len * 5 = 256 * 5) (hl : len ≤ 256)
    (hp : Ptrs w a n (fun j => ⟨ty (ka j), 0, none⟩)) (ht : ∀ j, j < n → w.cell? ⟨ty (ka j), 0, none⟩ = some (.string (tyN (ka j)))) (ha : ∀ b o, a = some ⟨b, o, none⟩ → b < w.heap.size) (hn : n ≤ 100) (hss : s.size ≤ 10) (hms : m.size ≤ 2) :
    Calls Ybaf.prog 12 #[.pointer (some ⟨cb, 0, none⟩), .string s, .string m, .slice a n cap, .pointer (some r)] w fun e w' => ∃ b o fa' L, e = .returned (.pointer (some ⟨b, o, none⟩)) ∧ KC (fun x y => (x = cb ∧ y = 7) ∨ (x = b ∧ o ≤ y ∧ y < o + 5)) w w' ∧
      (b ≠ cb → w'.cell? ⟨cb, 7, none⟩ = some (.slice fa' L L)) ∧ (0 < L → fa' = some ⟨b, o + 5, none⟩) ∧ Sh w' b 65 (256 * 5) ∧ o + (1 + L) * 5 = 256 * 5 ∧ (∀ j v, (fcells s m (.slice a n cap) r (jn ka n))[j]? = some v → w'.cell? ⟨b, o + j, none⟩ = some v) ∧
      ((b = fb ∧ o = fo ∧ L + 1 = len) ∨ (w.heap.size ≤ b ∧ b < w'.heap.size ∧ o = 0 ∧ len < 1)) := by
  have HL := toHid (len22 a cap n ka ty (w.alloc (.cells #[.pointer none, .slice none 0 0] 95)) (ptrs_below hp ((Below.refl _ w).alloc (Nat.le_refl _) _) ha) (fun j hj => (World.cell?_alloc_lt _ _ _ (block_lt_of_cell (ht j hj))).trans (ht j hj)) hn)
  have hjs := jn_size ka n
  have HG := toHid (fun k hk => bld_grow w k hk)
  have HT := toHid (fun (w1 : World) (b : Nat) (bs : List Value) (h : Bld w b bs w1) (hbs : bs.length ≤ 1000) => bld_wt (cap := cap) h hp ht ha hn hbs)
  have HS := toHid (fun (w1 : World) (b : Nat) (h : Bld w b _ w1) => bld_str (txt s m (jn ka n)) (by rw [txt_cells]; exact h))
  have HN := toHid (fun (w1 : World) (hb : Below w.heap.size w w1) => new27 cb fb fo len fa w1 (hs.of_block (hb.block _ hs.lt)) ((hb.cell hs.lt).trans hq) (fun h0 => ⟨(hfa h0).1, (hfa h0).2.1.of_block (hb.block _ (hfa h0).2.1.lt), (hfa h0).2.2⟩) hl)
  have e1 := txt_schema s m (jn ka n)
  have e2 := txt_name s m (jn ka n)
  have e3 := txt_size s m (jn ka n)
  rw [e3] at e2
  have hsl : s.size + 1 + m.size + 2 + (jn ka n).size ≤ 100000 := by omega
  replace hp := toHid hp
  replace ht := toHid ht
  replace ha := toHid ha
  replace hq := toHid hq
  replace hs := toHid hs
  replace hfa := toHid hfa
  unfold fcells
  generalize txt s m (jn ka n) = t at HS e1 e2 e3 ⊢
  generalize jn ka n = jl at HL HT HS e2 e3 hjs hsl ⊢
  go_enter Ybaf.func12, Ybaf.ntmps12
  go_wp2_with first
    | (go_at_call 22; refine HL.out.mono ?_; rintro e w1 ⟨rfl, rfl⟩)
    | (go_at_call 21; refine (HG.out (s.size + 1 + m.size + 2 + jl.size) (by omega)).mono ?_; rintro e w1 ⟨rfl, hb⟩; replace hb := toHid hb)
    | (go_at_call 23; refine (bld_ws _ hb.out (by simp only [List.length_append, Lib.strCells_length, List.length_nil, List.length_cons]; omega)).mono ?_; rintro e w1 ⟨rfl, hb1⟩; replace hb := toHid hb1; clear hb1)
    | (go_at_call 24; refine (bld_wb _ hb.out (by simp only [List.length_append, Lib.strCells_length, List.length_nil, List.length_cons]; omega)).mono ?_; rintro e w1 ⟨rfl, hb1⟩; replace hb := toHid hb1; clear hb1)
    | (go_at_call 25; refine (HT.out _ _ _ hb.out (by simp only [List.length_append, Lib.strCells_length, List.length_nil, List.length_cons]; omega)).mono ?_; rintro e w1 ⟨rfl, hb1⟩; replace hb := toHid hb1; clear hb1)
    | (go_at_call 26; refine (HS.out _ _ hb.out).mono ?_; rintro e w2 ⟨rfl, hbe⟩)
    | (go_at_call 27; refine (HN.out _ hbe).mono ?_; rintro e w3 ⟨qb, qo, fa', L, rfl, hr⟩; replace hr := toHid hr)
  obtain ⟨hK, hcq, hL, hsb, hoL, hor⟩ := hr.out
  obtain ⟨v0, c0⟩ := hsb.some (i := qo) (by omega)
  obtain ⟨v1, c1⟩ := hsb.some (i := qo + 1) (by omega)
  obtain ⟨v2, c2⟩ := hsb.some (i := qo + 2) (by omega)
  obtain ⟨v3, c3⟩ := hsb.some (i := qo + 3) (by omega)
  obtain ⟨v4, c4⟩ := hsb.some (i := qo + 4) (by omega)
  have f0 := hsb.frozen qo
  have f1 := hsb.frozen (qo + 1)
  have f2 := hsb.frozen (qo + 2)
  have f3 := hsb.frozen (qo + 3)
  have f4 := hsb.frozen (qo + 4)
  clear hK hcq hsb hor
  go_region
  go_wp2
  go_ret
  try rw [e2]
  obtain ⟨hK, hcq, hL, hsb, hoL, hor⟩ := hr.out
  have hKw : KC (fun x y => (x = cb ∧ y = 7) ∨ (x = qb ∧ qo ≤ y ∧ y < qo + 5)) w w3 := (KC.ofBelow hbe).trans (hK.mono fun x y _ h => .inl h)
  have hw2 := hbe.size
  have hw3 := hsb.lt
  have h5 := set5 w3 qb qo (.string s) (.string m) (.slice a n cap) (.pointer (some r)) (.string t) _ _ hsb (by omega)
  have h5o := fun c q hne => set5_other w3 qb qo c q (.string s) (.string m) (.slice a n cap) (.pointer (some r)) (.string t) hne
  have hK5 := ((((hKw.set (b := qb) (o := qo) (.inr ⟨rfl, by omega, by omega⟩) (.string s)).set (b := qb) (o := qo + 1) (.inr ⟨rfl, by omega, by omega⟩) (.string m)).set (b := qb) (o := qo + 2) (.inr ⟨rfl, by omega, by omega⟩) (.slice a n cap)).set (b := qb) (o := qo + 3) (.inr ⟨rfl, by omega, by omega⟩) (.pointer (some r))).set (b := qb) (o := qo + 4) (.inr ⟨rfl, by omega, by omega⟩) (.string t)
  have hs5 := ((((hsb.setCell ⟨qb, qo, none⟩ (.string s)).setCell ⟨qb, qo + 1, none⟩ (.string m)).setCell ⟨qb, qo + 2, none⟩ (.slice a n cap)).setCell ⟨qb, qo + 3, none⟩ (.pointer (some r))).setCell ⟨qb, qo + 4, none⟩ (.string t)
  have hz5 : (((((w3.setCell ⟨qb, qo, none⟩ (.string s)).setCell ⟨qb, qo + 1, none⟩ (.string m)).setCell ⟨qb, qo + 2, none⟩ (.slice a n cap)).setCell ⟨qb, qo + 3, none⟩ (.pointer (some r))).setCell ⟨qb, qo + 4, none⟩ (.string t)).heap.size = w3.heap.size := by simp
  clear hKw hsb
  generalize (((((w3.setCell ⟨qb, qo, none⟩ (.string s)).setCell ⟨qb, qo + 1, none⟩ (.string m)).setCell ⟨qb, qo + 2, none⟩ (.slice a n cap)).setCell ⟨qb, qo + 3, none⟩ (.pointer (some r))).setCell ⟨qb, qo + 4, none⟩ (.string t)) = w5 at h5 h5o hK5 hs5 hz5 ⊢
  have hD : KC nob w5 w5.drew := (KC.refl nob w5).drew
  refine ⟨qb, qo, fa', L, ?_, ?_, ?_, ?_, ?_, ?_, ?_, ?_⟩
  · rfl
  · exact hK5.drew
  · exact fun hne => hD.cell _ _ _ id ((h5o _ _ hne).trans hcq)
  · exact fun h => by simpa using hL h
  · exact hD.shape _ _ _ hs5
  · exact hoL
  · exact fun j v hj => hD.cell _ _ _ id (h5 j v hj)
  · rcases hor with ⟨h1, h2, h3, _⟩ | ⟨h1, h2, _, h3, _⟩
    · exact .inl ⟨h1, h2, h3⟩
    · exact .inr ⟨by omega, by show qb < w5.heap.size; omega, h2, h3⟩
end Go.Proofs.YbulkzmgFmt.Sc
