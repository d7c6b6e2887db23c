import Derived.Test.YbulkznwFmtBig
import Derived.ChangeSlices
import Derived.Deep.Slices
import Derived.OpenShut
import Derived.ProofKit
namespace Go.Proofs.YbulkznwFmt.Lk
open Go.RowKit Go.Extern.Stop Go.Stop Go.Extern Go.ChangeShapes Go.WideShapes Go.ChangeAt
set_option linter.unusedVariables false

theorem cells24 : Ybaf.prog.cellsOf 24 = 1 := by kernel_rfl
theorem cells5 : Ybaf.prog.cellsOf 5 = 1 := by kernel_rfl

/-- An entry of the table: a slice of bytes that can be read. -/
def Entry (w : World) (v : Value) : Prop := ∃ ea el ec, v = .slice ea el ec ∧ el ≤ 9223372036854775807 ∧ Readable w ea el ec
/-- A table of entries. -/
def IsTab (w : World) (ta : Option Addr) (n : Nat) : Prop := n ≤ 9223372036854775807 ∧ (0 < n → ∃ a, ta = some a ∧ ∃ V : Nat → Value, ∀ i, i < n → w.cell? (a.add i) = some (V i) ∧ Entry w (V i))

theorem max_len : maxLen ≤ 9223372036854775807 := by decide

theorem entry_of {H : Type} {enc : TypeId × Value → H} {w : World} {base : Nat} {held : Bool} {m : Nat} {v : Value} {x : DataW H × List MemPlace} (h : DataW.trod enc Ybaf.prog w base (fun _ => true) held m 24 [v] = some x) : Entry w v := by
  rcases open_ints Ybaf.underlying24 Ybaf.underlying5 cells5 h with ⟨hcs, hx⟩ | ⟨a, len, cap, zs, hcs, _, hl, hm, hz, hx, hcell, hwz⟩
  · simp only [List.cons.injEq, and_true] at hcs
    exact ⟨none, 0, 0, hcs, by omega, .inl rfl⟩
  · simp only [List.cons.injEq, and_true] at hcs
    simp only [if_true] at hz
    refine ⟨some a, len, cap, hcs, by have := max_len; omega, ?_⟩
    by_cases h0 : len = 0
    · exact .inl h0
    · obtain ⟨b, off, rfl, hc⟩ := ints_at hcell (by omega)
      refine .inr ⟨b, off, rfl, ?_, fun j hj => ?_⟩
      · have := hc 0 (by omega)
        exact block_lt_of_cell this
      · have hr := range_u8 hwz j
        refine ⟨UInt8.ofNat (zs.getD j 0).toNat, ?_⟩
        rw [hc j (by omega)]
        simp only [List.getD_eq_getElem?_getD] at hr ⊢
        congr 2
        rw [UInt8.toNat_ofNat_of_lt' (by simp [UInt8.size]; omega)]
        omega

theorem opened {H : Type} {enc : TypeId × Value → H} {w : World} {base : Nat} {held : Bool} {m : Nat} {ta : Option Addr} {n c : Nat} {x : DataW H × List MemPlace} (h : DataW.trod enc Ybaf.prog w base (fun _ => true) held m 22 [.slice ta n c] = some x) : IsTab w ta n := by
  rcases Deep.open_slice1 Ybaf.underlying22 cells24 h with ⟨hcs, hx⟩ | ⟨a, len, cap, m', n', V, D, Pl, hcs, hb, hl, hm, hmm, hx, hv⟩
  · simp only [List.cons.injEq, and_true, Value.slice.injEq] at hcs
    obtain ⟨rfl, rfl, rfl⟩ := hcs
    exact ⟨by omega, fun h => absurd h (Nat.lt_irrefl _)⟩
  · simp only [List.cons.injEq, and_true, Value.slice.injEq] at hcs
    obtain ⟨rfl, rfl, rfl⟩ := hcs
    simp only [if_true] at hmm
    subst hmm
    exact ⟨by have := max_len; omega, fun _ => ⟨a, rfl, V, fun i hi => ⟨(hv i (by omega)).1, entry_of (hv i (by omega)).2⟩⟩⟩

theorem Entry.kept {w w' : World} {v : Value} (h : Entry w v) (hk : Kept (fun b => w.heap.size ≤ b) w w') : Entry w' v := by
  obtain ⟨ea, el, ec, e1, e2, e3⟩ := h
  exact ⟨ea, el, ec, e1, e2, e3.kept hk (fun b hb => by omega)⟩

/-- The world behind the copy. -/
theorem copied (ta : Option Addr) (n tcap : Nat) (w : World) (hT : IsTab w ta n) :
    ∃ w1 L, (∀ ty, (Builtin.copy_ #[22, 22] ty #[.slice (some ⟨w.heap.size, 0, none⟩) n (n + 1), .slice ta n tcap]).run Ybaf.prog (w.alloc (.cells (madeCells #[.slice none 0 0] (n + 1)) 24)) = .ok (goInt n) w1) ∧
      Kept (fun b => w.heap.size ≤ b) w w1 ∧ w.heap.size < w1.heap.size ∧ Tab w1 w.heap.size (n + 1) L ∧ L.length = n ∧ (∀ v ∈ L, Entry w v) := by
  have hK0 : Kept (fun b => w.heap.size ≤ b) w (w.alloc (.cells (madeCells #[.slice none 0 0] (n + 1)) 24)) := (Kept.refl _ w).alloc _
  have hT0 := tab_made w (n + 1)
  rcases Nat.eq_zero_or_pos n with rfl | hp
  · refine ⟨_, [], fun ty => run_copy_none (P := Ybaf.prog) _ 22 22 ty 24 _ _ 0 1 0 tcap Ybaf.underlying22 (by kernel_rfl) rfl, hK0, by simp, hT0, rfl, fun v hv => by cases hv⟩
  · obtain ⟨a, rfl, V, hV⟩ := hT.2 hp
    obtain ⟨w1, hr, ht, hk⟩ := copy_tab (w.alloc (.cells (madeCells #[.slice none 0 0] (n + 1)) 24)) w.heap.size n tcap a ((List.range n).map V) (by simp) hT0
      (fun j v hj => by
        rw [List.getElem?_map] at hj
        obtain ⟨i, hi, rfl⟩ := Option.map_eq_some_iff.1 hj
        obtain ⟨hjn, hij⟩ := List.getElem?_eq_some_iff.1 hi
        simp only [List.length_range] at hjn
        simp only [List.getElem_range] at hij
        subst hij
        have hc := (hV j hjn).1
        have hlt := block_lt_of_cell hc
        exact (World.cell?_of_block (w := w) (hK0.block _ hlt (by omega))).trans hc)
      (fun v hv => by
        obtain ⟨i, hi, rfl⟩ := List.mem_map.1 hv
        obtain ⟨ea, el, ec, e1, _⟩ := (hV i (by simpa using hi)).2
        rw [e1]; rfl)
    have hk1 := hK0.trans (hk.mono (fun b _ (e : b = w.heap.size) => by subst e; exact Nat.le_refl _))
    refine ⟨w1, (List.range n).map V, hr, hk1, ?_, ht, by simp, fun v hv => ?_⟩
    · have := hk.size; simp at this; omega
    · obtain ⟨i, hi, rfl⟩ := List.mem_map.1 hv
      exact (hV i (by simpa using hi)).2

theorem made_zero (c j : Nat) (hj : j < c) : (madeCells #[.int .u8 0] c)[j]? = some (.int .u8 0) := by
  simp [madeCells, hj, Nat.mod_one]

set_option maxHeartbeats 800000 in
theorem walk_long (ta : Option Addr) (n tcap h kk big : Nat) (idx : Int) (w : World) (hn : 1024 < n) (hn2 : n ≤ 9223372036854775807) :
    Calls Ybaf.prog 3 #[.slice ta n tcap, .int .u32 h, .int .u8 kk, .int .i64 idx, .int .u8 big] w fun e w' => e = .returned (.bool true) ∧ Below w.heap.size w w' := by
  go_enter Ybaf.func3, Ybaf.ntmps3
  go_wp2
  all_goals (
    go_ret
    exact ⟨rfl, (Kept.refl none' w).below (Nat.le_refl _) (fun _ h => h.elim)⟩)

theorem walk (F : Interp) (ta : Option Addr) (n tcap h kk big : Nat) (idx : Int) (w : World) (hF : F.answers w.tape) (hT : IsTab w ta n) (hh : h < 4294967296) (hkk : kk ≤ 255) (hbig : big ≤ 255) :
    Calls Ybaf.prog 3 #[.slice ta n tcap, .int .u32 h, .int .u8 kk, .int .i64 idx, .int .u8 big] w fun e w' => e = .returned (.bool true) ∧ Below w.heap.size w w' := by
  by_cases hn : n ≤ 1024
  case neg => exact walk_long ta n tcap h kk big idx w (by omega) hT.1
  obtain ⟨w1, L, HCP, hK1, hlt1, hT1, hL, hE⟩ := copied ta n tcap w hT
  by_cases hb : 128 ≤ big
  · -- one entry more
    obtain ⟨r, hr⟩ : ∃ r, big % 4 = r := ⟨_, rfl⟩
    have hr4 : r < 4 := by omega
    have hmk2 := run_make_row' (P := Ybaf.prog) 24 5 (.int .u8 0) 1 Ybaf.underlying24 info5 rfl .i64 .i64 (65534 + r) (by omega) (by omega)
    have hcast : ((65534 + r : Nat) : Int) = (65534 : Int) + (r : Int) := by omega
    simp only [hcast] at hmk2
    have hKm : Kept none' w1 ((w1.alloc (.cells (madeCells #[.int .u8 0] (65534 + r)) 5)).alloc (.cells #[.slice (some ⟨w1.heap.size, 0, none⟩) (65534 + r) (65534 + r)] 24)) := ((Kept.refl _ w1).alloc _).alloc _
    have hB : ((w1.alloc (.cells (madeCells #[.int .u8 0] (65534 + r)) 5)).alloc (.cells #[.slice (some ⟨w1.heap.size, 0, none⟩) (65534 + r) (65534 + r)] 24)).heap[w1.heap.size + 1]? = some (.cells #[.slice (some ⟨w1.heap.size, 0, none⟩) (65534 + r) (65534 + r)] 24 (0, 0)) := by
      have := heap_alloc_new (w1.alloc (.cells (madeCells #[.int .u8 0] (65534 + r)) 5)) (.cells #[.slice (some ⟨w1.heap.size, 0, none⟩) (65534 + r) (65534 + r)] 24)
      simpa using this
    obtain ⟨w3, hap, hT3, hK3⟩ := append_tab _ w.heap.size n (w1.heap.size + 1) (.slice (some ⟨w1.heap.size, 0, none⟩) (65534 + r) (65534 + r)) L hL (hT1.kept hKm id) rfl hB
    have hK13 : Kept (fun b => b = w.heap.size) w1 w3 := hKm.any.trans hK3
    have hKw3 : Kept (fun b => w.heap.size ≤ b) w w3 := hK1.trans (hK13.mono (fun b _ (e : b = w.heap.size) => by subst e; exact Nat.le_refl _))
    have hlt3 : w.heap.size < w3.heap.size := Nat.lt_of_lt_of_le hlt1 hK13.size
    have hL3 : (L ++ [Value.slice (some ⟨w1.heap.size, 0, none⟩) (65534 + r) (65534 + r)]).length = n + 1 := by simp [hL]
    have hE3 : ∀ v ∈ L ++ [Value.slice (some ⟨w1.heap.size, 0, none⟩) (65534 + r) (65534 + r)], Entry w3 v := by
      intro v hv
      rcases List.mem_append.1 hv with hv | hv
      · exact (hE v hv).kept hKw3
      · simp only [List.mem_singleton] at hv
        subst hv
        have hblk : ((w1.alloc (.cells (madeCells #[.int .u8 0] (65534 + r)) 5)).alloc (.cells #[.slice (some ⟨w1.heap.size, 0, none⟩) (65534 + r) (65534 + r)] 24)).heap[w1.heap.size]? = some (.cells (madeCells #[.int .u8 0] (65534 + r)) 5 (0, 0)) := (Deep.blk_alloc_lt _ _ _ (by simp)).trans (heap_alloc_new _ _)
        have hblk3 := (hK3.block w1.heap.size (by simp; omega) (by omega)).trans hblk
        refine ⟨_, _, _, rfl, by omega, .inr ⟨w1.heap.size, 0, rfl, ?_, fun j hj => ⟨0, ?_⟩⟩⟩
        · have := hK3.size; simp at this; omega
        · rw [Nat.zero_add, cell_of_row w3 _ j _ 5 (0, 0) hblk3, made_zero _ _ hj]
          rfl
    generalize hLL : L ++ [Value.slice (some ⟨w1.heap.size, 0, none⟩) (65534 + r) (65534 + r)] = L3 at hL3 hE3 hT3
    cases hbit : h.testBit (kk % 17) with
    | false => exact big_no F ta n tcap h kk big (kk % 17) idx w w1 hF hn hh rfl hkk hbig hb r hr w3 hmk2 hap HCP hKw3 hbit
    | true =>
      by_cases hi : idx < 0 ∨ ((n + 1 : Nat) : Int) ≤ idx
      · exact big_bad F ta n tcap h kk big (kk % 17) idx w w1 hF hn hh rfl hkk hbig hb r hr w3 hmk2 hap HCP hKw3 hbit hi
      · have hiN : idx.toNat < n + 1 := by omega
        obtain ⟨ea, el, ec, e1, e2, e3⟩ := hE3 (L3[idx.toNat]'(by omega)) (List.getElem_mem _)
        have hLi : L3[idx.toNat]? = some (.slice ea el ec) := by rw [List.getElem?_eq_getElem (by omega), e1]
        by_cases hel : el ≤ 65535
        · exact big_ok F ta n tcap h kk big (kk % 17) idx w w1 hF hn hh rfl hkk hbig hb r hr w3 hmk2 hap HCP hKw3 hbit idx.toNat (by omega) hiN ea el ec L3 hT3 hLi e3 hel e2 hlt3
        · exact big_over F ta n tcap h kk big (kk % 17) idx w w1 hF hn hh rfl hkk hbig hb r hr w3 hmk2 hap HCP hKw3 hbit idx.toNat (by omega) hiN ea el ec L3 hT3 hLi e3 (by omega) e2 hlt3
  · cases hbit : h.testBit (kk % 17) with
    | false => exact small_no F ta n tcap h kk big (kk % 17) idx w w1 hF hn hh rfl hkk hbig hb HCP hK1 hbit
    | true =>
      by_cases hi : idx < 0 ∨ ((n : Nat) : Int) ≤ idx
      · exact small_bad F ta n tcap h kk big (kk % 17) idx w w1 hF hn hh rfl hkk hbig hb HCP hK1 hbit hi
      · have hiN : idx.toNat < n := by omega
        obtain ⟨ea, el, ec, e1, e2, e3⟩ := (hE (L[idx.toNat]'(by omega)) (List.getElem_mem _)).kept hK1
        have hLi : L[idx.toNat]? = some (.slice ea el ec) := by rw [List.getElem?_eq_getElem (by omega), e1]
        by_cases hel : el ≤ 65535
        · exact small_ok F ta n tcap h kk big (kk % 17) idx w w1 hF hn hh rfl hkk hbig hb HCP hK1 hbit idx.toNat (by omega) hiN ea el ec L hT1 hLi e3 hel e2 hlt1
        · exact small_over F ta n tcap h kk big (kk % 17) idx w w1 hF hn hh rfl hkk hbig hb HCP hK1 hbit idx.toNat (by omega) hiN ea el ec L hT1 hLi e3 (by omega) e2 hlt1
end Go.Proofs.YbulkznwFmt.Lk
