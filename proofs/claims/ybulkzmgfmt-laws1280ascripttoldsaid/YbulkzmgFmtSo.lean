import Derived.Test.YbulkzmgFmtAdd4
namespace Go.Proofs.YbulkzmgFmt.Sc
open Go.RowKit Go.Extern.Stop Go.Stop Go.Extern
set_option linter.unusedVariables false

/-- Where a schemaOverloads keeps its list and its map. -/
structure SS where
  b : Nat
  o : Nat
  cap : Nat
  mb : Nat

/-- A schemaOverloads of n functions f with argument lists l. -/
def SO (w : World) (lv mv : Value) (n : Nat) (f : Nat → Addr) (l : Nat → ByteArray) (S : SS) : Prop :=
  (n = 0 ∧ lv = .slice none 0 0 ∧ mv = .map none) ∨
  (0 < n ∧ lv = .slice (some ⟨S.b, S.o, none⟩) n S.cap ∧ LV w n f S.b S.o S.cap ∧ ((n ≤ 8 ∧ mv = .map none) ∨ (8 < n ∧ mv = .map (some S.mb) ∧ MapE w S.mb (AL l n))))

theorem SO.kc {own : Nat → Nat → Prop} {w w' : World} {lv mv : Value} {n : Nat} {f : Nat → Addr} {l : Nat → ByteArray} {S : SS} (h : SO w lv mv n f l S) (k : KC own w w') (h1 : 0 < n → ∀ j, j < n → ¬ own S.b (S.o + j)) (h2 : 8 < n → ∀ o, ¬ own S.mb o) : SO w' lv mv n f l S := by
  rcases h with h | ⟨h0, e1, hv, hm⟩
  · exact .inl h
  · refine .inr ⟨h0, e1, hv.kc k (h1 h0), ?_⟩
    rcases hm with hm | ⟨h8, e2, hm⟩
    · exact .inl hm
    · exact .inr ⟨h8, e2, hm.kc k (h2 h8)⟩
theorem LV.congr {w : World} {n : Nat} {f f' : Nat → Addr} {b o cap : Nat} (h : LV w n f b o cap) (e : ∀ j, j < n → f j = f' j) : LV w n f' b o cap :=
  ⟨h.le, fun j hj => by rw [← e j hj]; exact h.cell j hj, h.room⟩
theorem AL_congr {l l' : Nat → ByteArray} {n : Nat} (e : ∀ j, j < n → l j = l' j) : AL l n = AL l' n := by
  unfold AL
  apply List.map_congr_left
  intro j hj
  rw [e j (by simpa using hj)]
theorem SO.congr {w : World} {lv mv : Value} {n : Nat} {f f' : Nat → Addr} {l l' : Nat → ByteArray} {S : SS} (h : SO w lv mv n f l S) (e : ∀ j, j < n → f j = f' j) (e' : ∀ j, j < n → l j = l' j) : SO w lv mv n f' l' S := by
  rcases h with h | ⟨h0, e1, hv, hm⟩
  · exact .inl h
  · refine .inr ⟨h0, e1, hv.congr e, ?_⟩
    rcases hm with hm | ⟨h8, e2, hm⟩
    · exact .inl hm
    · exact .inr ⟨h8, e2, by rw [← AL_congr e']; exact hm⟩

def extl (l : Nat → ByteArray) (n : Nat) (k : ByteArray) : Nat → ByteArray := fun j => if j = n then k else l j

/-- The free rest of a chunk: cell (cb, q) leads to len elements at (b, o). -/
def Free (w : World) (cb q t sz b o len : Nat) : Prop := len ≤ 256 ∧ ∃ fa, w.cell? ⟨cb, q, none⟩ = some (.slice fa len len) ∧ (0 < len → fa = some ⟨b, o, none⟩ ∧ Sh w b t (256 * sz) ∧ o + len * sz = 256 * sz)
theorem Free.kc {own : Nat → Nat → Prop} {w w' : World} {cb q t sz b o len : Nat} (h : Free w cb q t sz b o len) (k : KC own w w') (hn : ¬ own cb q) : Free w' cb q t sz b o len := by
  obtain ⟨h1, fa, h2, h3⟩ := h
  exact ⟨h1, fa, k.cell _ _ _ hn h2, fun h => ⟨(h3 h).1, k.shape _ _ _ (h3 h).2.1, (h3 h).2.2⟩⟩

/-- What a successful add leaves: the new state S', the free list cells (fb', fo', len'). -/
structure AddOk (sb so cb n : Nat) (f : Nat → Addr) (l : Nat → ByteArray) (p : Addr) (k : ByteArray) (S : SS) (fb fo len : Nat) (w w' : World) (lv' mv' : Value) (S' : SS) (fb' fo' len' : Nat) : Prop where
  kc : KC (fun x y => (x = sb ∧ (y = so ∨ y = so + 1)) ∨ (x = cb ∧ y = 10) ∨ (x = S'.b ∧ y = S'.o + n) ∨ (8 < n ∧ x = S.mb)) w w'
  c0 : w'.cell? ⟨sb, so, none⟩ = some lv'
  c1 : w'.cell? ⟨sb, so + 1, none⟩ = some mv'
  so : SO w' lv' mv' (n + 1) (ext f n p) (extl l n k) S'
  free : Free w' cb 10 57 1 fb' fo' len'
  whereb : (0 < n ∧ S'.b = S.b ∧ S'.o = S.o ∧ n < S.cap ∧ fb' = fb ∧ fo' = fo ∧ len' = len) ∨ (0 < n ∧ w.heap.size ≤ S'.b ∧ S'.b < w'.heap.size ∧ S'.o = 0 ∧ fb' = fb ∧ fo' = fo ∧ len' = len) ∨
    (n = 0 ∧ fb' = S'.b ∧ fo' = S'.o + 1 ∧ S'.cap = 1 ∧ ((S'.b = fb ∧ S'.o = fo ∧ len' + 1 = len) ∨ (w.heap.size ≤ S'.b ∧ S'.b < w'.heap.size ∧ S'.o = 0)))
  wherem : 8 ≤ n → (8 < n ∧ S'.mb = S.mb) ∨ (n = 8 ∧ w.heap.size ≤ S'.mb ∧ S'.mb < w'.heap.size)

theorem add29 (sb so t N cb n : Nat) (f : Nat → Addr) (l : Nat → ByteArray) (S : SS) (lv mv : Value) (p : Addr) (k : ByteArray) (fb fo len : Nat) (w : World) (h0 : w.cell? ⟨sb, so, none⟩ = some lv) (h1 : w.cell? ⟨sb, so + 1, none⟩ = some mv) (hsb : Sh w sb t N) (hL : HasL w p k)
    (hS : SO w lv mv n f l S) (hl : ∀ j, j < n → HasL w (f j) (l j)) (hn : n ≤ 255) (hinj : ∀ i j, i < n → j < n → l i = l j → i = j) (hs : Sh w cb 49 11) (hF : Free w cb 10 57 1 fb fo len)
    (hne : sb ≠ cb) (hfb : fb ≠ sb) (hfc : fb ≠ cb) (hbs : 0 < n → S.b ≠ sb ∧ S.b ≠ cb) (hms : 8 < n → S.mb ≠ sb ∧ S.mb ≠ S.b ∧ S.mb ≠ cb) (hp : p.block ≠ sb ∧ (0 < n → p.block ≠ S.b)) (hf : ∀ j, j < n → (f j).block ≠ sb ∧ (f j).block ≠ S.b) :
    Calls Ybaf.prog 29 #[.pointer (some ⟨sb, so, none⟩), .pointer (some p), .pointer (some ⟨cb, 10, none⟩)] w fun e w' =>
      ((∃ j, j < n ∧ l j = k) ∧ e = .returned (.bool false) ∧ KC nob w w') ∨
      ((∀ j, j < n → l j ≠ k) ∧ e = .returned (.bool true) ∧ ∃ lv' mv' S' fb' fo' len', AddOk sb so cb n f l p k S fb fo len w w' lv' mv' S' fb' fo' len') := by
  obtain ⟨hlen, fa, hq, hfa⟩ := hF
  rcases hS with ⟨rfl, rfl, rfl⟩ | ⟨hn0, rfl, hv, hm⟩
  · refine (add29_first sb so t N cb fb fo len fa p k w h0 h1 hsb hL hs hq hfa hlen hne hfb hfc).mono ?_
    rintro e w' ⟨b, o, fa', L, rfl, kc, c0, c1, lv, cq, hL', hsh, hoL, hor⟩
    refine .inr ⟨by omega, rfl, _, _, ⟨b, o, 1, 0⟩, b, o + 1, L, ⟨kc.mono ?_, c0, c1, .inr ⟨by omega, rfl, ?_, .inl ⟨by omega, rfl⟩⟩, ⟨by omega, fa', cq, fun h => ⟨hL' h, by simpa using hsh, by omega⟩⟩, .inr (.inr ⟨rfl, rfl, rfl, rfl, ?_⟩), by omega⟩⟩
    · intro x y _ h
      rcases h with h | h | h
      · exact .inr (.inl h)
      · exact .inl ⟨h.1, .inl h.2⟩
      · exact .inr (.inr (.inl ⟨h.1, by simpa using h.2⟩))
    · exact lv.congr (fun j hj => by have : j = 0 := by omega
                                     subst this; simp [ext])
    · rcases hor with h | ⟨h, h', h'', _⟩
      · exact .inl h
      · exact .inr ⟨h, h', h''⟩
  · have hbs' := hbs hn0
    have lift : ∀ {b' o' cap' mv' own w'} (mb' : Nat), Added sb so n f p S.b S.o S.cap w w' b' o' cap' mv' own → (∀ x y, own x y → 8 < n ∧ x = S.mb) → (∀ y, ¬ own cb y) → ((n + 1 ≤ 8 ∧ mv' = .map none) ∨ (8 < n + 1 ∧ mv' = .map (some mb') ∧ MapE w' mb' (AL (extl l n k) (n + 1)))) → (8 ≤ n → (8 < n ∧ mb' = S.mb) ∨ (n = 8 ∧ w.heap.size ≤ mb' ∧ mb' < w'.heap.size)) →
        ∃ lv' mv' S' fb' fo' len', AddOk sb so cb n f l p k S fb fo len w w' lv' mv' S' fb' fo' len' := by
      intro b' o' cap' mv' own w' mb' A hown hcb hmv hwm
      have hcbn : ¬ ((cb = sb ∧ (10 = so ∨ 10 = so + 1)) ∨ (cb = b' ∧ 10 = o' + n) ∨ own cb 10) := by
        rintro (h | h | h)
        · exact hne h.1.symm
        · have := hs.lt
          rcases A.wher with ⟨e, _⟩ | ⟨e, _⟩
          · exact hbs'.2 (by rw [← e, ← h.1])
          · omega
        · exact hcb _ h
      refine ⟨_, _, ⟨b', o', cap', mb'⟩, fb, fo, len, ⟨A.kc.mono ?_, A.c0, A.c1, .inr ⟨by omega, rfl, A.lv, hmv⟩, ⟨hlen, fa, A.kc.cell _ _ _ hcbn hq, fun h => ⟨(hfa h).1, A.kc.shape _ _ _ (hfa h).2.1, (hfa h).2.2⟩⟩, ?_, hwm⟩⟩
      · intro x y _ h
        rcases h with h | h | h
        · exact .inl h
        · exact .inr (.inr (.inl h))
        · exact .inr (.inr (.inr (hown x y h)))
      · rcases A.wher with ⟨e1, e2, e4⟩ | ⟨e1, e2, e3⟩
        · exact .inl ⟨hn0, e1, e2, e4, rfl, rfl, rfl⟩
        · exact .inr (.inl ⟨hn0, e1, e2, e3, rfl, rfl, rfl⟩)
    by_cases hd : ∃ j, j < n ∧ l j = k
    · rcases hm with ⟨h8, rfl⟩ | ⟨h8, rfl, hm⟩
      · exact (add29_dup sb so t N cb n S.b S.o S.cap f l p k w h0 h1 hsb hL hv hl (by omega) hd).mono fun e w' h => .inl ⟨hd, h⟩
      · exact (add29_dupm sb so t N cb S.mb n _ f l p k w h0 h1 hsb hL hm hl hd).mono fun e w' h => .inl ⟨hd, h⟩
    · have hd' : ∀ j, j < n → l j ≠ k := fun j hj e => hd ⟨j, hj, e⟩
      rcases hm with ⟨h8, rfl⟩ | ⟨h8, rfl, hm⟩
      · by_cases h7 : n ≤ 7
        · refine (add29_few sb so t N cb n S.b S.o S.cap f l p k w h0 h1 hsb hL hv hl hn0 h7 hd' hbs'.1).mono ?_
          rintro e w' ⟨b', o', cap', rfl, A⟩
          exact .inr ⟨hd', rfl, lift 0 A (fun x y h => h.elim) (fun y h => h.elim) (.inl ⟨by omega, rfl⟩) (by omega)⟩
        · have h8' : n = 8 := by omega
          subst h8'
          refine (add29_nine sb so t N cb S.b S.o S.cap f l p k w h0 h1 hsb hL hv hl hd' hinj hbs'.1 ⟨hp.1, hp.2 hn0⟩ hf).mono ?_
          rintro e w' ⟨b', o', cap', mb, rfl, A, hmE, hmb⟩
          exact .inr ⟨hd', rfl, lift mb A (fun x y h => h.elim) (fun y h => h.elim) (.inr ⟨by omega, rfl, hmE⟩) (fun _ => .inr ⟨rfl, hmb, hmE.lt⟩)⟩
      · have hms' := hms h8
        refine (add29_many sb so t N cb S.mb n S.b S.o S.cap f l p k w h0 h1 hsb hL hv hm hl hn0 hn hd' hbs'.1 hms'.1 hms'.2.1).mono ?_
        rintro e w' ⟨b', o', cap', rfl, A, hmE⟩
        exact .inr ⟨hd', rfl, lift S.mb A (fun x y h => ⟨h8, h⟩) (fun y h => hms'.2.2 h.symm) (.inr ⟨by omega, rfl, hmE⟩) (fun _ => .inl ⟨h8, rfl⟩)⟩
end Go.Proofs.YbulkzmgFmt.Sc
