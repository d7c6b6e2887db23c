import Derived.Test.YbulkzmgFmtFun6
namespace Go.Proofs.YbulkzmgFmt.Sc
open Go.RowKit Go.Extern.Stop Go.Stop Go.Extern
set_option linter.unusedVariables false

/-- A step of the script. -/
structure StepD where
  s : Nat
  m : Nat
  r : Nat
  aa : Option Addr
  al : Nat
  ac : Nat
  d : Nat → Nat

/-- Step i lies at (b, o). -/
structure StepAt (w : World) (b o : Nat) (S : StepD) : Prop where
  c0 : w.cell? ⟨b, o, none⟩ = some (.int .u8 (S.s : Nat))
  c1 : w.cell? ⟨b, o + 1, none⟩ = some (.int .u8 (S.m : Nat))
  c2 : w.cell? ⟨b, o + 2, none⟩ = some (.slice S.aa S.al S.ac)
  c3 : w.cell? ⟨b, o + 3, none⟩ = some (.int .u8 (S.r : Nat))
  bs : S.s ≤ 255 ∧ S.m ≤ 255 ∧ S.r ≤ 255 ∧ S.al ≤ 9223372036854775807
  args : 0 < S.al → ∃ x y, S.aa = some ⟨x, y, none⟩ ∧ ∀ j, j < S.al → w.cell? ⟨x, y + j, none⟩ = some (.int .u8 (S.d j : Nat)) ∧ S.d j ≤ 255

theorem StepAt.below {B : Nat} {w w' : World} {b o : Nat} {S : StepD} (h : StepAt w b o S) (k : Below B w w') (hB : w.heap.size ≤ B) : StepAt w' b o S := by
  have mv : ∀ {x y v}, w.cell? ⟨x, y, none⟩ = some v → w'.cell? ⟨x, y, none⟩ = some v := fun hc => (k.cell (Nat.lt_of_lt_of_le (block_lt_of_cell hc) hB)).trans hc
  refine ⟨mv h.c0, mv h.c1, mv h.c2, mv h.c3, h.bs, fun h0 => ?_⟩
  obtain ⟨x, y, e, hc⟩ := h.args h0
  exact ⟨x, y, e, fun j hj => ⟨mv (hc j hj).1, (hc j hj).2⟩⟩

theorem lookS30 (w : World) : (zeroValue 34).run Ybaf.prog w = .ok (.pointer none) w := Ybaf.zeroValue34 w
def A26 : Obj := .cells #[.string ⟨#[112, 103, 95, 99, 97, 116, 97, 108, 111, 103]⟩, .string ⟨#[112, 117, 98, 108, 105, 99]⟩, .string ⟨#[115, 49]⟩, .string ⟨#[109, 121, 32, 115, 99, 104, 101, 109, 97]⟩, .string ⟨#[]⟩] 26
def A27 : Obj := .cells #[.string ⟨#[102]⟩, .string ⟨#[103]⟩, .string ⟨#[104, 1]⟩] 27
def A28 : Obj := .cells #[.string ⟨#[105, 110, 116, 52]⟩, .string ⟨#[116, 101, 120, 116]⟩, .string ⟨#[98, 111, 111, 108]⟩, .string ⟨#[105, 110, 116, 52, 91, 93]⟩, .string ⟨#[110, 117, 109, 101, 114, 105, 99]⟩, .string ⟨#[100, 97, 116, 101]⟩, .string ⟨#[110, 97, 109, 101]⟩, .string ⟨#[110, 111, 112, 101]⟩] 28
/-- The world with the three tables and the four maps. -/
def w7 (w : World) : World := ((((((w.alloc A26).alloc A27).alloc A28).alloc (.map #[] 0)).alloc (.map #[] 0)).alloc (.map #[] 0)).alloc (.map #[] 0)
theorem mapE_at {w : World} {b b' : Nat} {L : List (Value × Value)} (e : b = b') (h : MapE w b' L) : MapE w b L := e ▸ h
/-- The tables, the maps, the schemas laid. -/
structure Start (w : World) (w9 : World) : Prop where
  kc : KC nob w w9
  size : w9.heap.size = w.heap.size + 7
  t26 : w9.heap[w.heap.size]? = some A26
  t27 : w9.heap[w.heap.size + 1]? = some A27
  t28 : w9.heap[w.heap.size + 2]? = some A28
  mt : MapE w9 (w.heap.size + 3) []
  mf : MapE w9 (w.heap.size + 5) []
  ms : MapE w9 (w.heap.size + 6) (SL false)
theorem start (w : World) : ∃ w8 w9, (Instr.mapUpdate 33 (.map (some (w.heap.size + 1 + 1 + 1 + 1 + 1 + 1))) (.string ⟨#[112, 103, 95, 99, 97, 116, 97, 108, 111, 103]⟩) (.bool true)).run Ybaf.prog (w7 w) = .ok () w8 ∧ (Instr.mapUpdate 33 (.map (some (w.heap.size + 1 + 1 + 1 + 1 + 1 + 1))) (.string ⟨#[112, 117, 98, 108, 105, 99]⟩) (.bool true)).run Ybaf.prog w8 = .ok () w9 ∧ Start w w9 := by
  have k0 : KC nob w (w7 w) := (((((((KC.refl _ w).alloc _).alloc _).alloc _).alloc _).alloc _).alloc _).alloc _
  have hm : MapE (w7 w) (w.heap.size + 1 + 1 + 1 + 1 + 1 + 1) [] := mapE_at (by simp) (MapE.made (((((((w.alloc A26).alloc A27).alloc A28).alloc (.map #[] 0)).alloc (.map #[] 0)).alloc (.map #[] 0))))
  obtain ⟨w8, h1, h2, h3, h4⟩ := hm.put_new strOK Ybaf.underlying33 (by simp) (key := .string (scN 0)) ⟨_, rfl, by decide⟩ (by simp) (.bool true)
  obtain ⟨w9, h5, h6, h7, h8⟩ := h2.put_new strOK Ybaf.underlying33 (by simp; exact ⟨_, rfl, by decide⟩) (key := .string (scN 1)) ⟨_, rfl, by decide⟩ (by simp; exact fun h => absurd (congrArg (fun x : ByteArray => x.data.toList) h) (by decide)) (.bool true)
  have hsz : (w7 w).heap.size = w.heap.size + 7 := by simp [w7]
  have blk : ∀ k o, k < w.heap.size + 6 → (w7 w).heap[k]? = some o → w9.heap[k]? = some o := fun k o hk hb => by
    have hk7 : k < (w7 w).heap.size := by omega
    rw [h7.block k (by omega) (fun _ e => by omega), h3.block k hk7 (fun _ e => by omega)]
    exact hb
  have bm : ∀ k, k < w.heap.size + 6 → MapE (w7 w) k [] → MapE w9 k [] := fun k hk hb => by
    have hk7 : k < (w7 w).heap.size := by omega
    exact (hb.kc h3 (fun _ e => by omega)).kc h7 (fun _ e => by omega)
  have step : ∀ (v : World) (o : Obj) k x, v.heap[k]? = some x → (v.alloc o).heap[k]? = some x := fun v o k x h => (Below.heap_alloc v o k (Array.getElem?_eq_some_iff.1 h).1).trans h
  have e1 : (w.alloc A26).heap.size = w.heap.size + 1 := by simp
  have e2 : ((w.alloc A26).alloc A27).heap.size = w.heap.size + 2 := by simp
  have e3 : (((w.alloc A26).alloc A27).alloc A28).heap.size = w.heap.size + 3 := by simp
  have e5 : (((((w.alloc A26).alloc A27).alloc A28).alloc (.map #[] 0)).alloc (.map #[] 0)).heap.size = w.heap.size + 5 := by simp
  have q0 : (w7 w).heap[w.heap.size]? = some A26 := step _ _ _ _ (step _ _ _ _ (step _ _ _ _ (step _ _ _ _ (step _ _ _ _ (step _ _ _ _ (heap_alloc_new w A26))))))
  have q1 : (w7 w).heap[w.heap.size + 1]? = some A27 := step _ _ _ _ (step _ _ _ _ (step _ _ _ _ (step _ _ _ _ (step _ _ _ _ (by rw [← e1]; exact heap_alloc_new (w.alloc A26) A27)))))
  have q2 : (w7 w).heap[w.heap.size + 2]? = some A28 := step _ _ _ _ (step _ _ _ _ (step _ _ _ _ (step _ _ _ _ (by rw [← e2]; exact heap_alloc_new ((w.alloc A26).alloc A27) A28))))
  have q3 : (w7 w).heap[w.heap.size + 3]? = some (.map #[] 0) := step _ _ _ _ (step _ _ _ _ (step _ _ _ _ (by rw [← e3]; exact heap_alloc_new _ _)))
  have q5 : (w7 w).heap[w.heap.size + 5]? = some (.map #[] 0) := step _ _ _ _ (by rw [← e5]; exact heap_alloc_new _ _)
  refine ⟨w8, w9, h1, h5, ⟨(k0.transNew h3 (fun x y e => .inr (by omega))).transNew h7 (fun x y e => .inr (by omega)), by omega, blk _ _ (by omega) q0, blk _ _ (by omega) q1, blk _ _ (by omega) q2, bm _ (by omega) ⟨#[], 0, q3, rfl⟩, bm _ (by omega) ⟨#[], 0, q5, rfl⟩, h6⟩⟩
/-- The first i entries of c.types. -/
def TLi (ty : Nat → Nat) (i : Nat) : List (Value × Value) := (List.range i).map fun k => (.string (tyN k), .pointer (some ⟨ty k, 0, none⟩))

/-- Loop 2: the first i types are there. -/
structure Inv2 (p : Nat) (w wx : World) (i : Nat) : Prop where
  kc : KC nob w wx
  size : wx.heap.size = p + 9 + i
  t26 : wx.heap[p]? = some A26
  t27 : wx.heap[p + 1]? = some A27
  t28 : wx.heap[p + 2]? = some A28
  mt : MapE wx (p + 3) (TLi (fun k => p + 9 + k) i)
  mf : MapE wx (p + 5) []
  ms : MapE wx (p + 6) (SL false)
  cb : wx.heap[p + 7]? = some (.cells #[.map (some (p + 3)), .map (some (p + 4)), .map (some (p + 5)), .map (some (p + 6)), .pointer none, .int .i64 0, .map none, .slice none 0 0, .slice none 0 0, .slice none 0 0, .slice none 0 0] 49)
  sd : Sh wx (p + 8) 50 7
  da : ∀ j, j < i → wx.cell? ⟨p + 8, j, none⟩ = some (.pointer (some ⟨p + 9 + j, 0, none⟩))
  tys : ∀ j, j < i → wx.cell? ⟨p + 9 + j, 0, none⟩ = some (.string (tyN j))
theorem t28_cell : ∀ i : Fin 8, ∃ cs t, A28 = .cells cs t ∧ cs[i.val]? = some (.string (tyN i.val)) := by
  intro i
  refine ⟨_, _, rfl, ?_⟩
  have : i.val = 0 ∨ i.val = 1 ∨ i.val = 2 ∨ i.val = 3 ∨ i.val = 4 ∨ i.val = 5 ∨ i.val = 6 ∨ i.val = 7 := by omega
  rcases this with h | h | h | h | h | h | h | h <;> rw [h] <;> rfl
theorem cell28 {w : World} {b : Nat} (h : w.heap[b]? = some A28) {i : Nat} (hi : i < 8) : w.cell? ⟨b, i, none⟩ = some (.string (tyN i)) := by
  obtain ⟨cs, t, e, hc⟩ := t28_cell ⟨i, hi⟩
  rw [e] at h
  rw [cell_of_row w b i cs t (0, 0) h]
  exact hc

theorem Inv2.step {p : Nat} {w wx : World} {i : Nat} (h : Inv2 p w wx i) (hp : w.heap.size = p) (hi : i < 7) :
    ∃ w', (Instr.mapUpdate 30 (.map (some (p + 3))) (.string (tyN i)) (.pointer (some ⟨wx.heap.size, 0, none⟩))).run Ybaf.prog ((wx.setCell ⟨p + 7 + 1, i, none⟩ (.pointer (some ⟨wx.heap.size, 0, none⟩))).alloc (.cells #[.string (tyN i), .int .u8 85, .bool false, .pointer none, .pointer (some ⟨wx.heap.size, 0, none⟩), .string ⟨#[]⟩, .pointer (some ⟨p + 7, 0, none⟩)] 52)).drew = .ok () w' ∧ Inv2 p w w' (i + 1) := by
  have hz := h.size
  obtain ⟨W, hW⟩ : ∃ W, (wx.setCell ⟨p + 7 + 1, i, none⟩ (.pointer (some ⟨wx.heap.size, 0, none⟩))).alloc (.cells #[.string (tyN i), .int .u8 85, .bool false, .pointer none, .pointer (some ⟨wx.heap.size, 0, none⟩), .string ⟨#[]⟩, .pointer (some ⟨p + 7, 0, none⟩)] 52) = W := ⟨_, rfl⟩
  have k1 : KC (fun x y => x = p + 8 ∧ y = i) wx W := by rw [← hW]; exact ((KC.refl _ wx).set (b := p + 7 + 1) (o := i) ⟨rfl, rfl⟩ _).alloc _
  have zW : W.heap.size = wx.heap.size + 1 := by rw [← hW]; simp
  have nb : W.heap[wx.heap.size]? = some (.cells #[.string (tyN i), .int .u8 85, .bool false, .pointer none, .pointer (some ⟨wx.heap.size, 0, none⟩), .string ⟨#[]⟩, .pointer (some ⟨p + 7, 0, none⟩)] 52) := by
    rw [← hW]
    have := heap_alloc_new (wx.setCell ⟨p + 7 + 1, i, none⟩ (.pointer (some ⟨wx.heap.size, 0, none⟩))) (.cells #[.string (tyN i), .int .u8 85, .bool false, .pointer none, .pointer (some ⟨wx.heap.size, 0, none⟩), .string ⟨#[]⟩, .pointer (some ⟨p + 7, 0, none⟩)] 52)
    simpa using this
  have cd : W.cell? ⟨p + 8, i, none⟩ = some (.pointer (some ⟨wx.heap.size, 0, none⟩)) := by
    obtain ⟨u, hu⟩ := h.sd.some (i := i) hi
    rw [← hW]
    exact (World.cell?_alloc_lt _ _ _ (by simp; omega)).trans (World.cell?_setCell_same _ _ _ hu)
  rw [hW]
  have mW : MapE W.drew (p + 3) (TLi (fun k => p + 9 + k) i) := h.mt.kc (k1.drew) (fun o q => by omega)
  have inj : ∀ a, a < i → tyN a ≠ tyN i := fun a ha e => by
    have := tyN_inj ⟨a, by omega⟩ ⟨i, by omega⟩ e
    simp only [Fin.mk.injEq] at this
    omega
  obtain ⟨w', h1, h2, h3, h4⟩ := mW.put_new strOK Ybaf.underlying30 (fun q hq => by
      obtain ⟨k, _, rfl⟩ := List.mem_map.1 hq
      exact ⟨_, rfl, by have := tyN_size k; unfold maxLen; omega⟩) (key := .string (tyN i)) ⟨_, rfl, by have := tyN_size i; unfold maxLen; omega⟩ (fun q hq e => by
      obtain ⟨k, hk, rfl⟩ := List.mem_map.1 hq
      simp only [Value.string.injEq] at e
      exact inj k (by simpa using hk) e) (.pointer (some ⟨wx.heap.size, 0, none⟩))
  have k2 : KC (fun x _ => x = p + 3) W w' := ((KC.refl _ W).drew).trans h3
  have h4' : w'.heap.size = W.heap.size := h4
  have blk : ∀ k o, wx.heap[k]? = some o → k ≠ p + 8 → k ≠ p + 3 → w'.heap[k]? = some o := fun k o hk n1 n2 => by
    have hl := (Array.getElem?_eq_some_iff.1 hk).1
    rw [k2.block k (by omega) (fun _ e => n2 e), k1.block k hl (fun _ e => n1 e.1)]
    exact hk
  refine ⟨w', h1, ⟨(h.kc.transNew k1 (fun x y q => .inr (by omega))).transNew k2 (fun x y q => .inr (by omega)), by omega, blk _ _ h.t26 (by omega) (by omega), blk _ _ h.t27 (by omega) (by omega), blk _ _ h.t28 (by omega) (by omega), ?_, (h.mf.kc k1 (fun o q => by omega)).kc k2 (fun o q => by omega), (h.ms.kc k1 (fun o q => by omega)).kc k2 (fun o q => by omega), blk _ _ h.cb (by omega) (by omega), k2.shape _ _ _ (k1.shape _ _ _ h.sd), fun j hj => ?_, fun j hj => ?_⟩⟩
  · have e : TLi (fun k => p + 9 + k) i ++ [(.string (tyN i), .pointer (some ⟨wx.heap.size, 0, none⟩))] = TLi (fun k => p + 9 + k) (i + 1) := by
      unfold TLi
      rw [List.range_succ, List.map_append]
      simp [hz]
    rw [← e]
    exact h2
  · refine k2.cell _ _ _ (fun q => by omega) ?_
    by_cases hji : j = i
    · subst hji; rw [cd, hz]
    · exact k1.cell _ _ _ (fun q => hji q.2) (h.da j (by omega))
  · refine k2.cell _ _ _ (fun q => by omega) ?_
    by_cases hji : j = i
    · subst hji
      rw [← hz, cell_of_row _ _ 0 _ _ _ nb]
      rfl
    · exact k1.cell _ _ _ (fun q => by omega) (h.tys j (by omega))
theorem Inv2.start {p : Nat} {w w9 : World} (hp : w.heap.size = p) (h : Start w w9) : Inv2 p w ((w9.alloc (.cells #[.map (some (p + 1 + 1 + 1)), .map (some (p + 1 + 1 + 1 + 1)), .map (some (p + 1 + 1 + 1 + 1 + 1)), .map (some (p + 1 + 1 + 1 + 1 + 1 + 1)), .pointer none, .int .i64 0, .map none, .slice none 0 0, .slice none 0 0, .slice none 0 0, .slice none 0 0] 49)).alloc (.cells #[.pointer none, .pointer none, .pointer none, .pointer none, .pointer none, .pointer none, .pointer none] 50)) 0 := by
  subst hp
  have hz := h.size
  have step : ∀ (v : World) (o : Obj) k x, v.heap[k]? = some x → (v.alloc o).heap[k]? = some x := fun v o k x h => (Below.heap_alloc v o k (Array.getElem?_eq_some_iff.1 h).1).trans h
  have kk : ∀ o o' : Obj, KC nob w9 ((w9.alloc o).alloc o') := fun o o' => (KC.alloc1 w9 o).alloc o'
  refine ⟨(h.kc.alloc _).alloc _, by simp [hz], step _ _ _ _ (step _ _ _ _ h.t26), step _ _ _ _ (step _ _ _ _ h.t27), step _ _ _ _ (step _ _ _ _ h.t28), h.mt.kc (kk _ _) (fun _ => id), h.mf.kc (kk _ _) (fun _ => id), h.ms.kc (kk _ _) (fun _ => id), ?_, ?_, by omega, by omega⟩
  · refine step _ _ _ _ ?_
    rw [← hz]
    exact heap_alloc_new _ _
  · have := heap_alloc_new (w9.alloc (.cells #[.map (some (w.heap.size + 1 + 1 + 1)), .map (some (w.heap.size + 1 + 1 + 1 + 1)), .map (some (w.heap.size + 1 + 1 + 1 + 1 + 1)), .map (some (w.heap.size + 1 + 1 + 1 + 1 + 1 + 1)), .pointer none, .int .i64 0, .map none, .slice none 0 0, .slice none 0 0, .slice none 0 0, .slice none 0 0] 49)) (.cells #[.pointer none, .pointer none, .pointer none, .pointer none, .pointer none, .pointer none, .pointer none] 50)
    refine ⟨#[.pointer none, .pointer none, .pointer none, .pointer none, .pointer none, .pointer none, .pointer none], ?_, rfl⟩
    have e : w.heap.size + 8 = (w9.alloc (.cells #[.map (some (w.heap.size + 1 + 1 + 1)), .map (some (w.heap.size + 1 + 1 + 1 + 1)), .map (some (w.heap.size + 1 + 1 + 1 + 1 + 1)), .map (some (w.heap.size + 1 + 1 + 1 + 1 + 1 + 1)), .pointer none, .int .i64 0, .map none, .slice none 0 0, .slice none 0 0, .slice none 0 0, .slice none 0 0] 49)).heap.size := by simp [hz]
    rw [e]
    exact this

/-- The catalog at the start. -/
def g0 (p : Nat) : Gh := { cb := p + 7, tm := p + 3, fm := p + 5, sm := p + 6, ty := fun k => p + 9 + k, fs := [], ks := [], ov := fun _ => (0, 0), ss := fun _ _ => ⟨0, 0, 0, 0⟩, xm := fun _ => 0, ff := ⟨p + 7, 0, 0⟩, fa := ⟨p + 7, 0, 0⟩, fo := ⟨p + 7, 0, 0⟩, fl := ⟨p + 7, 0, 0⟩, kd := fun x => if x = p + 7 then 1 else if x = p + 3 then 7 else if x = p + 5 then 8 else if x = p + 6 then 9 else if p + 9 ≤ x ∧ x < p + 16 then 2 else 0 }
theorem cat0 {p : Nat} {w wx : World} (h : Inv2 p w wx 7) : Cat wx (g0 p) false := by
  have hz := h.size
  have hc : ∀ q v, (#[.map (some (p + 3)), .map (some (p + 4)), .map (some (p + 5)), .map (some (p + 6)), .pointer none, .int .i64 0, .map none, .slice none 0 0, .slice none 0 0, .slice none 0 0, .slice none 0 0] : Array Value)[q]? = some v → wx.cell? ⟨p + 7, q, none⟩ = some v := fun q v hv => by rw [cell_of_row _ _ _ _ _ _ h.cb]; exact hv
  have hfree : ∀ q t sz, 7 ≤ q → q ≤ 10 → Free wx (p + 7) q t sz (p + 7) 0 0 := fun q t sz h1 h2 => ⟨by omega, none, hc q _ (by
    have : q = 7 ∨ q = 8 ∨ q = 9 ∨ q = 10 := by omega
    rcases this with rfl | rfl | rfl | rfl <;> rfl), fun h => absurd h (Nat.lt_irrefl _)⟩
  refine ⟨⟨fun b hb => ?_, ?_, ?_, ?_, ?_, fun k hk => ?_, ⟨_, h.cb, rfl⟩, hc 0 _ rfl, fun k hk => h.tys k hk, h.mt, by simp [g0], by simp [g0], by simp [g0], by simp [g0], by simp [g0], by simp [g0], by simp [g0], hfree 7 _ _ (by omega) (by omega), hfree 8 _ _ (by omega) (by omega), hfree 9 _ _ (by omega) (by omega), hfree 10 _ _ (by omega) (by omega), by simp [g0], by simp [g0], by simp [g0], by simp [g0], by simp [g0]⟩, hc 2 _ rfl, hc 3 _ rfl, hc 5 _ rfl, h.mf, h.ms⟩
  all_goals simp only [g0]
  · rw [if_neg (by omega), if_neg (by omega), if_neg (by omega), if_neg (by omega), if_neg (by omega)]
  · simp
  · rw [if_neg (by omega), if_pos trivial]
  · rw [if_neg (by omega), if_neg (by omega), if_pos trivial]
  · rw [if_neg (by omega), if_neg (by omega), if_neg (by omega), if_pos trivial]
  · rw [if_neg (by omega), if_neg (by omega), if_neg (by omega), if_neg (by omega), if_pos (by omega)]

/-- The law's own rows. -/
structure LI (w0 : World) (p : Nat) (i : Nat) (wr : World) (g : Gh) (b3 : Bool) (v12 v13 v14 v15 v16 : Value) (tb : Nat → Nat) : Prop where
  below : Below w0.heap.size w0 wr
  cat : Cat wr g b3
  cbv : g.cb = p + 7
  ty : g.ty = fun k => p + 9 + k
  kdB : ∀ b, g.kd b ≠ 0 → w0.heap.size ≤ b
  pB : w0.heap.size ≤ p
  t26 : wr.heap[p]? = some A26
  t27 : wr.heap[p + 1]? = some A27
  t28 : wr.heap[p + 2]? = some A28
  sd : Sh wr (p + 8) 50 7
  da : ∀ j, j < 7 → wr.cell? ⟨p + 8, j, none⟩ = some (.pointer (some ⟨p + 9 + j, 0, none⟩))
  kst : g.kd p = 0 ∧ g.kd (p + 1) = 0 ∧ g.kd (p + 2) = 0 ∧ g.kd (p + 8) = 0
  le : g.fs.length ≤ i
  keys : wr.ownsRow w0.heap.size 9 1 v12 g.fs.length (g.fs.map fun φ => .string φ.key)
  fkeys : wr.ownsRow w0.heap.size 63 2 v13 g.ks.length (g.ks.flatMap fun k => [.string (nmN k.1), .int .i64 (k.2 : Nat)])
  made : wr.ownsRow w0.heap.size 57 1 v14 g.fs.length (g.fs.map fun φ => .pointer (some φ.ad))
  texts : wr.ownsRow w0.heap.size 9 1 v15 g.fs.length (g.fs.map fun φ => .string (txt (scN φ.s) (nmN φ.m) φ.li))
  sets : wr.ownsRow w0.heap.size 39 1 v16 g.fs.length ((List.range g.fs.length).map fun j => .slice (some ⟨tb j, 0, none⟩) (g.fs.getD j fn0).n (g.fs.getD j fn0).n)
  kr : ∀ v, v = v12 ∨ v = v13 ∨ v = v14 ∨ v = v15 ∨ v = v16 → ∀ b, v.ownBlock = some b → g.kd b = 0
  kt : v12.ownBlock = none ∨ v12.ownBlock ≠ v15.ownBlock
  ts : ∀ j, j < g.fs.length → Sh wr (tb j) 34 (g.fs.getD j fn0).n ∧ g.kd (tb j) = 0 ∧ ∀ q, q < (g.fs.getD j fn0).n → wr.cell? ⟨tb j, q, none⟩ = some (.pointer (some ⟨p + 9 + (g.fs.getD j fn0).ka q, 0, none⟩))

theorem li0 {p : Nat} {w0 w wx : World} (h : Inv2 p w wx 7) (hb : Below w0.heap.size w0 w) (hp : w.heap.size = p) : LI w0 p 0 wx (g0 p) false (.slice none 0 0) (.slice none 0 0) (.slice none 0 0) (.slice none 0 0) (.slice none 0 0) (fun _ => 0) := by
  have hz := hb.size
  refine ⟨?_, cat0 h, rfl, rfl, fun b hb' => ?_, by omega, h.t26, h.t27, h.t28, h.sd, fun j hj => h.da j hj, ?_, by simp [g0], World.ownsRow_nil _ _ _ _, World.ownsRow_nil _ _ _ _, World.ownsRow_nil _ _ _ _, World.ownsRow_nil _ _ _ _, World.ownsRow_nil _ _ _ _, ?_, .inl rfl, by simp [g0]⟩
  · exact hb.trans ((h.kc.below (Nat.le_refl _) (fun _ _ e => e.elim)).mono hz)
  · simp only [g0] at hb'
    by_cases q : w0.heap.size ≤ b
    · exact q
    · exfalso
      apply hb'
      rw [if_neg (by omega), if_neg (by omega), if_neg (by omega), if_neg (by omega), if_neg (by omega)]
  · simp only [g0]
    refine ⟨?_, ?_, ?_, ?_⟩ <;> rw [if_neg (by omega), if_neg (by omega), if_neg (by omega), if_neg (by omega), if_neg (by omega)]
  · intro v hv b hb'
    rcases hv with rfl | rfl | rfl | rfl | rfl <;> cases hb'
end Go.Proofs.YbulkzmgFmt.Sc
