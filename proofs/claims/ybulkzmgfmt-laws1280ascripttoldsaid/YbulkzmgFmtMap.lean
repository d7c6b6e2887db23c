import Derived.Test.YbulkzmgFmtBase
import Derived.Maps.Own
import Derived.WideShapes
namespace Go.Proofs.YbulkzmgFmt.Sc
open Go.RowKit Go.Extern.Stop Go.Stop Go.Extern
open Go.ChangeMaps (setBlock heap_setBlock_other heap_setBlock_same)
set_option linter.unusedVariables false

theorem str_inj {a b : ByteArray} (h : a.toList = b.toList) : a = b := by
  rw [ByteArray.toList_eq, ByteArray.toList_eq] at h
  exact Go.WideShapes.bytes_inj h

/-- What the laws ask of a key's type. -/
structure KeyOK (k : TypeId) (good : Value → Prop) : Prop where
  check : ∀ (w : World) (em : Bool) {v : Value}, good v → (Instr.checkKey em 10000 k v).run Ybaf.prog w = .ok () w
  find : ∀ (w : World) {x : Value}, good x → ∀ es : List MapEntry, (∀ e ∈ es, good e.key) →
    ((Instr.findKey k x es).run Ybaf.prog w = .ok none w ∧ ∀ e ∈ es, e.key ≠ x) ∨ ∃ j e, (Instr.findKey k x es).run Ybaf.prog w = .ok (some (j, e.val)) w ∧ es[j]? = some e ∧ e.key = x
  stays : ∀ (w : World) {v : Value}, good v → (Instr.keyThatStays v v).run Ybaf.prog w = .ok v w

def strKey (v : Value) : Prop := ∃ s : ByteArray, v = .string s ∧ s.size ≤ maxLen
def funKey (v : Value) : Prop := ∃ (s : ByteArray) (n : Int), v = .agg #[.string s, .int .i64 n]

theorem keyS {v : Value} (h : strKey v) : ∃ l, keyOf Ybaf.prog 9 v = some l := by
  obtain ⟨s, rfl, hs⟩ := h
  simp [keyOf, Ybaf.underlying9, mapKey, hs]
theorem strOK : KeyOK 9 strKey where
  check w em v h := by obtain ⟨l, hl⟩ := keyS h; exact (Maps.string_keyed Ybaf.underlying9).check w em hl
  find w x h es he := by
    obtain ⟨l, hl⟩ := keyS h
    exact (Maps.string_keyed Ybaf.underlying9).find w hl es (fun e hm => keyS (he e hm))
  stays w v h := by obtain ⟨l, hl⟩ := keyS h; exact (Maps.string_keyed Ybaf.underlying9).stays w hl

theorem equal76 (s s' : ByteArray) (n n' : Int) (w : World) : (Op.equal 76 (.agg #[.string s, .int .i64 n]) (.agg #[.string s', .int .i64 n'])).run Ybaf.prog w = .ok (decide (s = s' ∧ n = n')) w := by
  unfold Op.equal Op.maxDepth
  go_simp
  by_cases h : s = s'
  · subst h
    by_cases h2 : n = n' <;> simp [h2]
  · have : s.toList ≠ s'.toList := fun e => h (str_inj e)
    simp [h, this]
theorem findAsk76 (s : ByteArray) (n : Int) (w : World) : ∀ (es : List MapEntry) (i : Nat), (∀ e ∈ es, funKey e.key) →
    ((Instr.findAsking 76 (.agg #[.string s, .int .i64 n]) es i).run Ybaf.prog w = .ok none w ∧ ∀ e ∈ es, e.key ≠ .agg #[.string s, .int .i64 n]) ∨
    ∃ j e, (Instr.findAsking 76 (.agg #[.string s, .int .i64 n]) es i).run Ybaf.prog w = .ok (some (i + j, e.val)) w ∧ es[j]? = some e ∧ e.key = .agg #[.string s, .int .i64 n]
  | [], i, _ => .inl ⟨rfl, by simp⟩
  | x :: es, i, h => by
    obtain ⟨s', n', hk⟩ := h x (by simp)
    have heq := equal76 s s' n n' w
    by_cases hc : s = s' ∧ n = n'
    · obtain ⟨rfl, rfl⟩ := hc
      refine .inr ⟨0, x, ?_, rfl, hk⟩
      unfold Instr.findAsking
      rw [hk]
      simp [heq]
    · have hne : x.key ≠ .agg #[.string s, .int .i64 n] := by rw [hk]; intro e; simp at e; exact hc ⟨e.1.symm, e.2.symm⟩
      have hstep : (Instr.findAsking 76 (.agg #[.string s, .int .i64 n]) (x :: es) i).run Ybaf.prog w = (Instr.findAsking 76 (.agg #[.string s, .int .i64 n]) es (i + 1)).run Ybaf.prog w := by
        conv => lhs; unfold Instr.findAsking
        rw [hk]
        simp [heq, hc]
      rcases findAsk76 s n w es (i + 1) (fun e he => h e (by simp [he])) with ⟨h1, h2⟩ | ⟨j, e, h1, h2, h3⟩
      · exact .inl ⟨hstep.trans h1, fun e he => by
          rcases List.mem_cons.1 he with rfl | he
          · exact hne
          · exact h2 e he⟩
      · exact .inr ⟨j + 1, e, hstep.trans (by rw [h1, show i + 1 + j = i + (j + 1) by omega]), by simpa using h2, h3⟩
theorem check76 (em : Bool) (s : ByteArray) (n : Int) (w : World) : (Instr.checkKey em 10000 76 (.agg #[.string s, .int .i64 n])).run Ybaf.prog w = .ok () w := by kernel_rfl
theorem funOK : KeyOK 76 funKey where
  check w em v h := match v, h with | _, ⟨s, n, rfl⟩ => check76 em s n w
  find w x h es he := by
    obtain ⟨s, n, rfl⟩ := h
    cases es with
    | nil => exact .inl ⟨by simp [Instr.findKey, Instr.findNow, run_underlying Ybaf.underlying76], by simp⟩
    | cons e es =>
      have hq : (Instr.findKey 76 (.agg #[.string s, .int .i64 n]) (e :: es)).run Ybaf.prog w = (Instr.findAsking 76 (.agg #[.string s, .int .i64 n]) (e :: es) 0).run Ybaf.prog w := by
        simp [Instr.findKey, Instr.findNow, Instr.sameNow, run_underlying Ybaf.underlying76]
      rcases findAsk76 s n w (e :: es) 0 he with ⟨h1, h2⟩ | ⟨j, e', h1, h2, h3⟩
      · exact .inl ⟨hq.trans h1, h2⟩
      · exact .inr ⟨j, e', hq.trans (by simpa using h1), h2, h3⟩
  stays w v h := by
    obtain ⟨s, n, rfl⟩ := h
    have : (s == s) = true := (MapKept.bytes_beq s s).mpr rfl
    simp [Instr.keyThatStays, Instr.sameBits, this]

/-- Block b is a map with just these entries, in the order in which they came. -/
def MapE (w : World) (b : Nat) (L : List (Value × Value)) : Prop := ∃ es clock, w.heap[b]? = some (.map es clock) ∧ es.toList.map (fun e => (e.key, e.val)) = L

theorem MapE.of_block {w w' : World} {b : Nat} {L : List (Value × Value)} (h : MapE w b L) (e : w'.heap[b]? = w.heap[b]?) : MapE w' b L := by
  obtain ⟨es, c, hb, hl⟩ := h
  exact ⟨es, c, e.trans hb, hl⟩
theorem MapE.lt {w : World} {b : Nat} {L : List (Value × Value)} (h : MapE w b L) : b < w.heap.size := by
  obtain ⟨es, c, hb, hl⟩ := h
  exact (Array.getElem?_eq_some_iff.1 hb).1
theorem MapE.kc {own : Nat → Nat → Prop} {w w' : World} {b : Nat} {L : List (Value × Value)} (h : MapE w b L) (k : KC own w w') (ho : ∀ o, ¬ own b o) : MapE w' b L := h.of_block (k.block b h.lt ho)
theorem MapE.made (w : World) : MapE (w.alloc (.map #[] 0)) w.heap.size [] := ⟨#[], 0, heap_alloc_new _ _, rfl⟩

/-- m[key], v, ok := m[key]: the key is not there. -/
theorem MapE.look_none {k t e : TypeId} {good : Value → Prop} (K : KeyOK k good) (ht : Ybaf.prog.underlying t = some (.map k e)) {w : World} {b : Nat} {L : List (Value × Value)} (h : MapE w b L) (hg : ∀ p ∈ L, good p.1) {key : Value} (hk : good key) (hn : ∀ p ∈ L, p.1 ≠ key)
    {z : Value} (hz : (zeroValue e).run Ybaf.prog w = .ok z w) (c : Bool) : (Instr.lookup t (.map (some b)) key c).run Ybaf.prog w = .ok (if c then .tuple #[z, .bool false] else z) w := by
  obtain ⟨es, cl, hb, rfl⟩ := h
  have hes : ∀ x ∈ es.toList, good x.key := fun x hx => hg (x.key, x.val) (List.mem_map.2 ⟨x, hx, rfl⟩)
  rcases K.find w hk es.toList hes with ⟨h1, h2⟩ | ⟨j, e0, h1, h2, h3⟩
  · simp [Instr.lookup, run_underlying ht, MapKept.run_getObj_map hb, K.check w _ hk, h1, hz, Result.andThen]
  · exact absurd h3 (hn (e0.key, e0.val) (List.mem_map.2 ⟨e0, List.mem_of_getElem? h2, rfl⟩))
/-- .. it is there. -/
theorem MapE.look_some {k t e : TypeId} {good : Value → Prop} (K : KeyOK k good) (ht : Ybaf.prog.underlying t = some (.map k e)) {w : World} {b : Nat} {L : List (Value × Value)} (h : MapE w b L) (hg : ∀ p ∈ L, good p.1) {key v : Value} (hk : good key) (hm : (key, v) ∈ L) (hu : ∀ v', (key, v') ∈ L → v' = v) (c : Bool) :
    (Instr.lookup t (.map (some b)) key c).run Ybaf.prog w = .ok (if c then .tuple #[v, .bool true] else v) w := by
  obtain ⟨es, cl, hb, rfl⟩ := h
  have hes : ∀ x ∈ es.toList, good x.key := fun x hx => hg (x.key, x.val) (List.mem_map.2 ⟨x, hx, rfl⟩)
  rcases K.find w hk es.toList hes with ⟨h1, h2⟩ | ⟨j, e0, h1, h2, h3⟩
  · obtain ⟨x, hx, hx2⟩ := List.mem_map.1 hm
    simp only [Prod.mk.injEq] at hx2
    exact absurd hx2.1 (h2 x hx)
  · have hv : e0.val = v := hu e0.val (by rw [← h3]; exact List.mem_map.2 ⟨e0, List.mem_of_getElem? h2, rfl⟩)
    rw [hv] at h1
    simp [Instr.lookup, run_underlying ht, MapKept.run_getObj_map hb, K.check w _ hk, h1, Result.andThen]
theorem kc_setBlock {own : Nat → Nat → Prop} {w : World} {b : Nat} {es es' : Array MapEntry} {c c' : Nat} (hb : w.heap[b]? = some (.map es c)) (ho : ∀ o, own b o) : KC own w (setBlock w b (.map es' c')) := by
  refine ⟨rfl, rfl, rfl, by simp [setBlock], fun k hk h => heap_setBlock_other hb _ (fun e => h 0 (by rw [e]; exact ho 0)), fun k o v h hc => ?_, fun k t n hs => ?_⟩
  · exact (World.cell?_of_block (w := w) (heap_setBlock_other hb _ (fun e => h (by have e' : k = b := e; rw [e']; exact ho o)))).trans hc
  · refine hs.of_block (heap_setBlock_other hb _ (fun e => ?_))
    obtain ⟨cs, h1, _⟩ := hs
    rw [e, hb] at h1
    cases h1
/-- m[key] = v at a key that is not there. -/
theorem MapE.put_new {k t e : TypeId} {good : Value → Prop} (K : KeyOK k good) (ht : Ybaf.prog.underlying t = some (.map k e)) {w : World} {b : Nat} {L : List (Value × Value)} (h : MapE w b L) (hg : ∀ p ∈ L, good p.1) {key : Value} (hk : good key) (hn : ∀ p ∈ L, p.1 ≠ key) (v : Value) :
    ∃ w', (Instr.mapUpdate t (.map (some b)) key v).run Ybaf.prog w = .ok () w' ∧ MapE w' b (L ++ [(key, v)]) ∧ KC (fun k _ => k = b) w w' ∧ w'.heap.size = w.heap.size := by
  obtain ⟨es, cl, hb, rfl⟩ := h
  have hes : ∀ x ∈ es.toList, good x.key := fun x hx => hg (x.key, x.val) (List.mem_map.2 ⟨x, hx, rfl⟩)
  rcases K.find w hk es.toList hes with ⟨h1, h2⟩ | ⟨j, e0, h1, h2, h3⟩
  · refine ⟨setBlock w b (.map (es.push ⟨key, v, cl⟩) (cl + 1)), ?_, ⟨_, _, heap_setBlock_same hb _, by simp⟩, kc_setBlock hb (fun _ => rfl), by simp [setBlock]⟩
    simp [Instr.mapUpdate, run_underlying ht, MapKept.run_getObj_map hb, K.check w false hk, h1, MapKept.run_setObj_map _ hb, Result.andThen, setBlock]
  · exact absurd h3 (hn (e0.key, e0.val) (List.mem_map.2 ⟨e0, List.mem_of_getElem? h2, rfl⟩))
/-- m[key] = v at a key that is there, once. -/
theorem MapE.put_old {k t e : TypeId} {good : Value → Prop} (K : KeyOK k good) (ht : Ybaf.prog.underlying t = some (.map k e)) {w : World} {b : Nat} {L : List (Value × Value)} (h : MapE w b L) (hg : ∀ p ∈ L, good p.1) {key : Value} (hk : good key) (j0 : Nat) (v0 : Value) (hj : L[j0]? = some (key, v0)) (hu : ∀ j v', L[j]? = some (key, v') → j = j0) (v : Value) :
    ∃ w', (Instr.mapUpdate t (.map (some b)) key v).run Ybaf.prog w = .ok () w' ∧ MapE w' b (L.set j0 (key, v)) ∧ KC (fun k _ => k = b) w w' ∧ w'.heap.size = w.heap.size := by
  obtain ⟨es, cl, hb, rfl⟩ := h
  have hes : ∀ x ∈ es.toList, good x.key := fun x hx => hg (x.key, x.val) (List.mem_map.2 ⟨x, hx, rfl⟩)
  rcases K.find w hk es.toList hes with ⟨h1, h2⟩ | ⟨j, e0, h1, h2, h3⟩
  · have := List.mem_of_getElem? hj
    obtain ⟨x, hx, hx2⟩ := List.mem_map.1 this
    simp only [Prod.mk.injEq] at hx2
    exact absurd hx2.1 (h2 x hx)
  · have hjj : j = j0 := hu j e0.val (by rw [List.getElem?_map, h2]; simp [h3])
    subst hjj
    have hgj : es[j]? = some e0 := by rw [← Array.getElem?_toList]; exact h2
    refine ⟨setBlock w b (.map (es.modify j fun e => { e with key := key, val := v }) cl), ?_, ⟨_, _, heap_setBlock_same hb _, ?_⟩, kc_setBlock hb (fun _ => rfl), by simp [setBlock]⟩
    · have hst := K.stays w hk
      simp [Instr.mapUpdate, run_underlying ht, MapKept.run_getObj_map hb, K.check w false hk, h1, hgj, h3, hst, MapKept.run_setObj_map _ hb, Result.andThen, setBlock]
    · apply List.ext_getElem?
      intro i
      rw [List.getElem?_map, Array.getElem?_toList, Array.getElem?_modify, List.getElem?_set]
      by_cases hi : j = i
      · subst hi
        have : j < es.size := (Array.getElem?_eq_some_iff.1 hgj).1
        simp [this]
      · simp [hi]
end Go.Proofs.YbulkzmgFmt.Sc
