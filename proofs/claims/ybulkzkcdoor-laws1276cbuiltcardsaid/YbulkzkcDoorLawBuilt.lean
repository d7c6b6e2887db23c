import Derived.Test.YbulkzkcDoorLawModel
import Derived.Test.YbulkzkcDoorBuf
namespace Go.Proofs.YbulkzkcDoor.Rd
open Go.RowKit

/-- Cells of an old row are there still. -/
theorem Kept.cell {own : Nat → Prop} {w w' : World} (k : Kept own w w') {a : Addr} {v : Value} (h : w.cell? a = some v) (ho : ¬ own a.block) : w'.cell? a = some v :=
  (World.cell?_of_block (w := w) (k.block a.block (World.block_lt_of_cell? w a h) ho)).trans h

/-- The cells of 'want'. -/
def wntF (D : Nat → Nat) (n : Nat) : Nat → Value := fun j => if j < n then .int .i64 ((Rd.want (D j) : Nat) : Int) else .int .i64 0
theorem wntF_succ (D : Nat → Nat) (n v : Nat) (hv : Rd.want (D n) = v) : (fun j => if j = n then Value.int .i64 (v : Int) else wntF D n j) = wntF D (n + 1) := by
  subst hv
  funext j
  unfold wntF
  by_cases h : j = n
  · subst h; simp
  · rw [if_neg h]; by_cases h2 : j < n
    · rw [if_pos h2, if_pos (by omega)]
    · rw [if_neg h2, if_neg (by omega)]

theorem wpList_append4 {P : Program} {w w' : World} {ops : Array Oper} {rest : List Oper} {o : Oper} {a : Act} {Q : Exit → Act → World → Prop} (t t2 : TypeId) (hg : o.guard = none) (s x : Operand) (hop : o.op = Op.call { callee := Callee.builtin Builtin.append, args := #[s, x], argTypes := #[t, t2] })
    {u v r : Value} (hs : a.eval s = u) (hx : a.eval x = v) (hrun : ∀ ty, (Builtin.append_ #[t, t2] ty #[u, v]).run P w = .ok r w') (hK : wpList P ops Q rest (a.put o.dst r) w') :
    wpList P ops Q (o :: rest) a w := by
  refine wpList_plain hg fun K hK' => ?_
  unfold Oper.wp execOp
  simp only [hop, resolve, invoke, builtin, Sem.run_bind, Sem.run_pure, Result.andThen_ok, List.map_toArray, List.map_cons, List.map_nil, hs, hx, hrun]
  exact hK' _ _ hK

theorem mark_le (t : Nat) : mark t ≤ 255 := by
  have h : ∀ t, t < 9 → mark t ≤ 255 := by decide
  by_cases ht : t < 9
  · exact h t ht
  · have : mark t = 45 := by
      unfold mark
      rw [List.getD_eq_getElem?_getD, List.getElem?_eq_none (by simp; omega)]
      rfl
    omega
theorem fld_le (P D : Nat → Nat) (j : Nat) : ∀ x ∈ fld P D j, x ≤ 255 := by
  intro x hx
  unfold fld digs at hx
  have := mark_le (P j % 9)
  split at hx <;> simp at hx
  · rcases hx with h | h | h <;> omega
  · rcases hx with h | h <;> omega
theorem built_le (P D : Nat → Nat) (n : Nat) : ∀ x ∈ built P D n, x ≤ 255 := by
  intro x hx
  simp only [built, List.mem_flatMap] at hx
  obtain ⟨j, _, h⟩ := hx
  exact fld_le P D j x h
theorem nums_le (s : ByteArray) : ∀ x ∈ nums s, x ≤ 255 := by
  intro x hx
  simp only [nums, List.mem_map] at hx
  obtain ⟨b, _, rfl⟩ := hx
  have := b.toNat_lt; omega
theorem nums_append (a b : ByteArray) : nums (a ++ b) = nums a ++ nums b := by simp [nums]

theorem mark_at (t : Nat) (h : t < (⟨#[45, 58, 47, 46, 33, 126, 35, 64, 95]⟩ : ByteArray).size) : ((⟨#[45, 58, 47, 46, 33, 126, 35, 64, 95]⟩ : ByteArray)[t]).toNat = mark t := by
  have h9 : t < 9 := h
  have : t = 0 ∨ t = 1 ∨ t = 2 ∨ t = 3 ∨ t = 4 ∨ t = 5 ∨ t = 6 ∨ t = 7 ∨ t = 8 := by omega
  rcases this with rfl | rfl | rfl | rfl | rfl | rfl | rfl | rfl | rfl <;> rfl

set_option maxRecDepth 20000 in
set_option maxHeartbeats 4000000 in
theorem lawBuilt_any (pa da : Option Addr) (pb po k pcap db dof dl dcap : Nat) (tail : ByteArray) (P D : Nat → Nat) (w : World)
    (hpa : 0 < k → pa = some ⟨pb, po, none⟩) (hpl : 0 < k → pb < w.heap.size) (hpc : ∀ j, j < k → w.cell? ⟨pb, po + j, none⟩ = some (.int .u8 (P j : Nat))) (hp8 : ∀ j, P j ≤ 255)
    (hda : 0 < dl → da = some ⟨db, dof, none⟩) (hdl : 0 < dl → db < w.heap.size) (hdc : ∀ j, j < dl → w.cell? ⟨db, dof + j, none⟩ = some (.int .u8 (D j : Nat))) (hd8 : ∀ j, D j ≤ 255) (hd0 : ∀ j, dl ≤ j → D j = 0)
    (hk : k ≤ 256) (ht : tail.size ≤ 1024) (hdm : dl ≤ 9223372036854775807) :
    Calls Ybad.prog 4 #[.slice pa k pcap, .slice da dl dcap, .string tail] w fun e w' => e = .returned (.bool true) ∧ Below w.heap.size w w' := by
  have Hpa := toHid hpa
  have Hpl := toHid hpl
  have Hpc := toHid hpc
  have Hp8 := toHid hp8
  have Hda := toHid hda
  have Hdl := toHid hdl
  have Hdc := toHid hdc
  have Hd8 := toHid hd8
  have Hd0 := toHid hd0
  clear hpa hpl hpc hp8 hda hdl hdc hd8 hd0
  obtain ⟨C, hC⟩ : ∃ C, 3 * k + 1 + tail.size = C := ⟨_, rfl⟩
  have hCi : 3 * (k : Int) + 1 + (tail.size : Int) = (C : Int) := by omega
  have hC2 : C ≤ 100000 := by omega
  have hmk := run_make_row' (P := Ybad.prog) 22 3 (.int .i64 0) 8 Ybad.underlying22 Ybad.info3 rfl .i64 .i64 k (by omega) (by omega)
  have hmk2 := run_make_row' (P := Ybad.prog) 23 24 (.pointer none) 8 Ybad.underlying23 Ybad.info24 rfl .i64 .i64 k (by omega) (by omega)
  have hmk3 := run_make30 C hC2
  go_enter Ybad.func4, Ybad.ntmps4
  go_wp2_with fail
  go_loopw [9, 10, 11, 12] (fun b i _ _ wr => ∃ n m : Nat, i = .int .i64 n ∧ b = .slice (some ⟨w.heap.size + 1, 0, none⟩) m C ∧ n ≤ k ∧ m ≤ 3 * n ∧ Hid ((built P D n).length = m) ∧ Hid (wr.rowIs w.heap.size 3 k (wntF D n)) ∧ Hid (Buf wr (w.heap.size + 1) C (built P D n)) ∧ Hid (Kept (fun b => w.heap.size ≤ b) w wr)) (fun _ i _ _ _ => k - (intOf i).toNat)
  case atStart =>
    refine ⟨0, 0, rfl, rfl, by omega, by omega, rfl, ?_, ?_, ?_⟩
    · exact ((World.rowIs_made w (.int .i64 0) k 3).alloc _).congr (fun j _ => by simp [wntF])
    · have := buf_made (w.alloc (.cells (madeCells #[.int .i64 0] k) 3)) C
      simp at this
      exact this
    · exact ((Kept.refl _ w).alloc _).alloc _
  case round =>
    obtain ⟨n, m, rfl, rfl, hnk, hmn, Hlen, HW, HB, HK⟩ := hrel
    by_cases hn2 : n < k
    · have hpn := HK.out.cell (Hpc.out n hn2) (by have := Hpl.out (by omega); simp; omega)
      have hpa := Hpa.out (by omega)
      have hp8 := Hp8.out n
      obtain ⟨t, htt⟩ : ∃ t, P n % 9 = t := ⟨_, rfl⟩
      have hti : ((P n : Nat) : Int) % 9 = (t : Int) := by omega
      have ht9 : t < 9 := by omega
      have Htt := toHid htt
      clear htt
      subst hpa
      have hmark := mark_at t ht9
      generalize hcm : mark t = c at hmark
      have Hcm := toHid hcm
      clear hcm
      obtain ⟨w1, hr1, hb1, hk1⟩ := append_buf (wr.alloc (.cells #[.int .u8 (c : Int)] 5)) (w.heap.size + 1) C wr.heap.size m 1 (built P D n) [c] (HB.out.kept ((Kept.refl (fun _ => False) wr).alloc _) id) Hlen.out rfl (by omega) (heap_alloc_new _ _)
      have HR1 := toHid hr1
      have HB1 := toHid hb1
      have HK1 := toHid ((HK.out.alloc (.cells #[.int .u8 (c : Int)] 5)).trans (hk1.mono (own' := fun b => w.heap.size ≤ b) (fun b _ e => by have e' : b = w.heap.size + 1 := e; omega)))
      have HW1 := toHid (hk1.row (HW.out.alloc (.cells #[.int .u8 (c : Int)] 5)) (by omega))
      clear hr1 hb1 hk1
      by_cases hnd : n < dl
      · have hdn := HK1.out.cell (Hdc.out n hnd) (by have := Hdl.out (by omega); simp; omega)
        have hda := Hda.out (by omega)
        subst hda
        obtain ⟨d, hd⟩ : ∃ d, D n = d := ⟨_, rfl⟩
        have hd8 := Hd8.out n
        rw [hd] at hdn hd8
        obtain ⟨v, hv⟩ : ∃ v, d % 100 = v := ⟨_, rfl⟩
        have hvi : (d : Int) % 100 = (v : Int) := by omega
        have hv1 : v < 100 := by omega
        obtain ⟨r, hr⟩ : ∃ r, v % 10 = r := ⟨_, rfl⟩
        have hri : (v : Int) % 10 = (r : Int) := by omega
        have hr1 : r < 10 := by omega
        have Hd := toHid hd
        have Hv := toHid hv
        have Hr := toHid hr
        clear hd hv hr
        by_cases h128 : 128 ≤ d
        · obtain ⟨q, hq⟩ : ∃ q, v / 10 = q := ⟨_, rfl⟩
          have hqi : (v : Int) / 10 = (q : Int) := by omega
          have hq1 : q < 10 := by omega
          have Hq := toHid hq
          clear hq
          obtain ⟨w2, hr2, hb2, hk2⟩ := append_buf (w1.alloc (.cells #[.int .u8 ((48 + q : Nat) : Int), .int .u8 ((48 + r : Nat) : Int)] 5)) (w.heap.size + 1) C w1.heap.size (m + 1) 2 _ [48 + q, 48 + r] (HB1.out.kept ((Kept.refl (fun _ => False) w1).alloc _) id) (by simp [Hlen.out]) rfl (by omega) (heap_alloc_new _ _)
          simp only [Int.natCast_add, Int.cast_ofNat_Int] at hr2
          have HR2 := toHid hr2
          have HB2 := toHid hb2
          have HK2 := toHid ((HK1.out.alloc (.cells #[.int .u8 ((48 + q : Nat) : Int), .int .u8 ((48 + r : Nat) : Int)] 5)).trans (hk2.mono (own' := fun b => w.heap.size ≤ b) (fun b _ e => by have e' : b = w.heap.size + 1 := e; omega)))
          have HW2 := toHid (hk2.row (HW1.out.alloc _) (by omega))
          clear hr2 hb2 hk2
          have hcw := HW2.out.cell hn2
          have hfw := HW2.out.frozen n
          go_wp2_with first
            | (at_builtin; refine wpList_append4 30 30 rfl _ _ rfl (u := .slice (some ⟨w.heap.size + 1, 0, none⟩) m C) (v := .slice (some ⟨wr.heap.size, 0, none⟩) 1 1) rfl rfl HR1.out ?_)
            | (at_builtin; refine wpList_append4 30 30 rfl _ _ rfl (u := .slice (some ⟨w.heap.size + 1, 0, none⟩) (m + 1) C) (v := .slice (some ⟨w1.heap.size, 0, none⟩) 2 2) rfl rfl HR2.out ?_)
          have hbs : (built P D n ++ [c]) ++ [48 + q, 48 + r] = built P D (n + 1) := by
            rw [built_succ, List.append_assoc]
            unfold fld digs
            rw [Htt.out, Hcm.out, Hd.out, if_pos h128, Hv.out, Hq.out, Hr.out]; rfl
          have hw : want (D n) = v := by unfold want; rw [Hd.out, if_pos h128, Hv.out]
          go_round
          case rel =>
            refine ⟨n + 1, m + 3, by go_num, by simp, by omega, by omega, ?_, ?_, ?_, ?_⟩
            · show _ = _
              rw [← hbs]; simp [Hlen.out]
            · have := HW2.out.set n (.int .i64 (v : Int))
              rw [wntF_succ D n v hw] at this
              exact this
            · rw [← hbs]
              exact HB2.out.kept ((Kept.refl (fun b => b = w.heap.size) w2).setCell rfl _) (by omega)
            · exact HK2.out.setCell (Nat.le_refl _) _
          case measure => simp [intOf]; omega
        · obtain ⟨w2, hr2, hb2, hk2⟩ := append_buf (w1.alloc (.cells #[.int .u8 ((48 + r : Nat) : Int)] 5)) (w.heap.size + 1) C w1.heap.size (m + 1) 1 _ [48 + r] (HB1.out.kept ((Kept.refl (fun _ => False) w1).alloc _) id) (by simp [Hlen.out]) rfl (by omega) (heap_alloc_new _ _)
          simp only [Int.natCast_add, Int.cast_ofNat_Int] at hr2
          have HR2 := toHid hr2
          have HB2 := toHid hb2
          have HK2 := toHid ((HK1.out.alloc (.cells #[.int .u8 ((48 + r : Nat) : Int)] 5)).trans (hk2.mono (own' := fun b => w.heap.size ≤ b) (fun b _ e => by have e' : b = w.heap.size + 1 := e; omega)))
          have HW2 := toHid (hk2.row (HW1.out.alloc _) (by omega))
          clear hr2 hb2 hk2
          have hcw := HW2.out.cell hn2
          have hfw := HW2.out.frozen n
          go_wp2_with first
            | (at_builtin; refine wpList_append4 30 30 rfl _ _ rfl (u := .slice (some ⟨w.heap.size + 1, 0, none⟩) m C) (v := .slice (some ⟨wr.heap.size, 0, none⟩) 1 1) rfl rfl HR1.out ?_)
            | (at_builtin; refine wpList_append4 30 30 rfl _ _ rfl (u := .slice (some ⟨w.heap.size + 1, 0, none⟩) (m + 1) C) (v := .slice (some ⟨w1.heap.size, 0, none⟩) 1 1) rfl rfl HR2.out ?_)
          have hbs : (built P D n ++ [c]) ++ [48 + r] = built P D (n + 1) := by
            rw [built_succ, List.append_assoc]
            unfold fld digs
            rw [Htt.out, Hcm.out, Hd.out, if_neg h128, Hv.out, Hr.out]; rfl
          have hw : want (D n) = r := by unfold want; rw [Hd.out, if_neg h128, Hv.out, Hr.out]
          go_round
          case rel =>
            refine ⟨n + 1, m + 2, by go_num, by simp, by omega, by omega, ?_, ?_, ?_, ?_⟩
            · show _ = _
              rw [← hbs]; simp [Hlen.out]
            · have := HW2.out.set n (.int .i64 (r : Int))
              rw [wntF_succ D n r hw] at this
              exact this
            · rw [← hbs]
              exact HB2.out.kept ((Kept.refl (fun b => b = w.heap.size) w2).setCell rfl _) (by omega)
            · exact HK2.out.setCell (Nat.le_refl _) _
          case measure => simp [intOf]; omega
      · have Hd := toHid (Hd0.out n (by omega))
        obtain ⟨w2, hr2, hb2, hk2⟩ := append_buf (w1.alloc (.cells #[.int .u8 48] 5)) (w.heap.size + 1) C w1.heap.size (m + 1) 1 _ [48] (HB1.out.kept ((Kept.refl (fun _ => False) w1).alloc _) id) (by simp [Hlen.out]) rfl (by omega) (heap_alloc_new _ _)
        have HR2 := toHid hr2
        have HB2 := toHid hb2
        have HK2 := toHid ((HK1.out.alloc (.cells #[.int .u8 48] 5)).trans (hk2.mono (own' := fun b => w.heap.size ≤ b) (fun b _ e => by have e' : b = w.heap.size + 1 := e; omega)))
        have HW2 := toHid (hk2.row (HW1.out.alloc _) (by omega))
        clear hr2 hb2 hk2
        have hcw := HW2.out.cell hn2
        have hfw := HW2.out.frozen n
        go_wp2_with first
          | (at_builtin; refine wpList_append4 30 30 rfl _ _ rfl (u := .slice (some ⟨w.heap.size + 1, 0, none⟩) m C) (v := .slice (some ⟨wr.heap.size, 0, none⟩) 1 1) rfl rfl HR1.out ?_)
          | (at_builtin; refine wpList_append4 30 30 rfl _ _ rfl (u := .slice (some ⟨w.heap.size + 1, 0, none⟩) (m + 1) C) (v := .slice (some ⟨w1.heap.size, 0, none⟩) 1 1) rfl rfl HR2.out ?_)
        have hbs : (built P D n ++ [c]) ++ [48] = built P D (n + 1) := by
          rw [built_succ, List.append_assoc]
          unfold fld digs
          rw [Htt.out, Hcm.out, Hd.out]; rfl
        have hw : want (D n) = 0 := by rw [Hd.out]; rfl
        go_round
        case rel =>
          refine ⟨n + 1, m + 2, by go_num, by simp, by omega, by omega, ?_, ?_, ?_, ?_⟩
          · show _ = _
            rw [← hbs]; simp [Hlen.out]
          · have := HW2.out.set n (.int .i64 ((0 : Nat) : Int))
            rw [wntF_succ D n 0 hw] at this
            exact this
          · rw [← hbs]
            exact HB2.out.kept ((Kept.refl (fun b => b = w.heap.size) w2).setCell rfl _) (by omega)
          · exact HK2.out.setCell (Nat.le_refl _) _
        case measure => simp [intOf]; omega
    · obtain rfl : n = k := by omega
      clear Hpa Hpl Hpc Hp8 Hda Hdl Hdc Hd0
      obtain ⟨w1, hr1, hb1, hk1⟩ := append_buf (wr.alloc (.cells #[.int .u8 35] 5)) (w.heap.size + 1) C wr.heap.size m 1 (built P D n) [35] (HB.out.kept ((Kept.refl (fun _ => False) wr).alloc _) id) Hlen.out rfl (by omega) (heap_alloc_new _ _)
      have HR1 := toHid hr1
      have HK1 := (HK.out.alloc (.cells #[.int .u8 35] 5)).trans (hk1.mono (own' := fun b => w.heap.size ≤ b) (fun b _ e => by have e' : b = w.heap.size + 1 := e; omega))
      have HW1 := hk1.row (HW.out.alloc (.cells #[.int .u8 35] 5)) (by omega)
      obtain ⟨w2, hr2, hb2, hk2⟩ := append_str w1 (w.heap.size + 1) C (m + 1) tail.size _ tail hb1 (by simp [Hlen.out]) rfl (by omega)
      have HR2 := toHid hr2
      have HB2 := toHid hb2
      have HK2 := toHid (HK1.trans (hk2.mono (own' := fun b => w.heap.size ≤ b) (fun b _ e => by have e' : b = w.heap.size + 1 := e; omega)))
      have HW2 := toHid (hk2.row HW1 (by omega))
      have hlt2 := hb2.lt
      clear hr1 hb1 hk1 hr2 hb2 hk2 HK1 HW1
      go_wp2_with first
        | (at_builtin; refine wpList_append4 30 30 rfl _ _ rfl (u := .slice (some ⟨w.heap.size + 1, 0, none⟩) m C) (v := .slice (some ⟨wr.heap.size, 0, none⟩) 1 1) rfl rfl HR1.out ?_)
        | (at_builtin; refine wpList_append4 30 9 rfl _ _ rfl (u := .slice (some ⟨w.heap.size + 1, 0, none⟩) (m + 1) C) (v := .string tail) rfl rfl HR2.out ?_)
      clear HB HK HW HR1 HR2 hmk hmk2 hmk3
      go_loopw [15] (fun i wr => ∃ p : Nat, i = .int .i64 p ∧ p ≤ n ∧ Hid (wr.rowIs w2.heap.size 3 n (iniF (.int .i64 (-1)) p)) ∧ Hid (wr.rowIs (w2.heap.size + 1) 24 n (ptrF w2.heap.size p)) ∧ Hid (Kept (fun b => w2.heap.size ≤ b) w2 wr)) (fun i _ => n - (intOf i).toNat)
      case atStart =>
        refine ⟨0, rfl, by omega, ?_, ?_, ?_⟩
        · exact ((World.rowIs_made w2 (.int .i64 0) n 3).alloc _).congr (fun j _ => by simp [iniF])
        · have := World.rowIs_made (w2.alloc (.cells (madeCells #[.int .i64 0] n) 3)) (.pointer none) n 24
          simp at this
          exact this.congr (fun j _ => by simp [ptrF])
        · exact ((Kept.refl _ w2).alloc _).alloc _
      case round =>
        obtain ⟨p, rfl, hpn, HG, HP, HK⟩ := hrel
        by_cases hp2 : p < n
        · have hc1 := HG.out.cell hp2
          have hf1 := HG.out.frozen p
          have hc2 := (HP.out.setOther (a := ⟨w2.heap.size, p, none⟩) (by simp) (.int .i64 (-1))).cell hp2
          have hf2 := (HP.out.setOther (a := ⟨w2.heap.size, p, none⟩) (by simp) (.int .i64 (-1))).frozen p
          go_wp2_with fail
          go_round
          case rel =>
            refine ⟨p + 1, by go_num, by omega, ?_, ?_, ?_⟩
            · have := (HG.out.set p (.int .i64 (-1))).setOther (a := ⟨w2.heap.size + 1, p, none⟩) (by simp) (.pointer (some ⟨w2.heap.size, p, none⟩))
              rw [iniF_succ] at this
              exact this
            · have := (HP.out.setOther (a := ⟨w2.heap.size, p, none⟩) (by simp) (.int .i64 (-1))).set p (.pointer (some ⟨w2.heap.size, p, none⟩))
              rw [ptrF_succ] at this
              exact this
            · exact (HK.out.setCell (Nat.le_refl _) _).setCell (Nat.le_succ _) _
          case measure => simp [intOf]; omega
        · obtain rfl : p = n := by omega
          have hG := HG.out.congr (g := fun _ => .int .i64 (-1)) (fun j h => by simp [iniF, h])
          have hP := HP.out.congr (g := fun i => .pointer (some ⟨w2.heap.size, i, none⟩)) (fun j h => by simp [ptrF, h])
          have hWt := HK.out.row HW2.out (by omega)
          have hB := HB2.out.kept HK.out (by omega)
          rw [List.append_assoc, List.cons_append, List.nil_append] at hB
          have hLl : (built P D p ++ 35 :: nums tail).length = m + 1 + tail.size := by simp [Hlen.out, nums_len]; omega
          obtain ⟨S, hS, hconv⟩ := conv_back _ (w.heap.size + 1) C (m + 1 + tail.size) _ (by
            intro x hx
            simp at hx
            rcases hx with h | h | h
            · exact built_le P D p x h
            · omega
            · exact nums_le tail x h) hB hLl
          have hSs : S.size ≤ 100000 := by rw [← nums_len, hS, hLl]; omega
          have hR := rd_built P D p (nums tail)
          rw [← hS] at hR
          have HR := toHid (read_any S p (w2.heap.size + 1) w2.heap.size _ _ hSs (by omega) hG hP (by omega) _ _ _ hR)
          have HKw := toHid (HK2.out.trans (HK.out.mono (own' := fun b => w.heap.size ≤ b) (fun b _ e => by have e' : w2.heap.size ≤ b := e; omega)))
          have HWt := toHid hWt
          have HS := toHid hS
          clear hG hP hR hB hWt HG HP HK HW2 HB2 HK2 hS hLl
          go_wp2_with (go_at_call 5; refine HR.out.mono ?_; rintro e w4 ⟨r, rfl, hr, hrs, hrow, hK4⟩; obtain rfl : r = ⟨#[35]⟩ ++ tail := nums_inj (by rw [hr, nums_append]; rfl))
          have HG4 := toHid (hrow.congr (g := wntF D p) (fun j h => by simp [gotF, wntF, h]))
          have HW4 := toHid (hK4.row HWt.out (by omega))
          have HK4 := toHid (HKw.out.trans (hK4.mono (own' := fun b => w.heap.size ≤ b) (fun b _ e => by have e' : b = w2.heap.size := e; omega)))
          clear hr hrow hK4 HR hconv HWt HKw
          go_loopw [18] (fun i wr => ∃ x : Nat, i = .int .i64 x ∧ x ≤ p ∧ Hid (wr.rowIs w2.heap.size 3 p (wntF D p)) ∧ Hid (wr.rowIs w.heap.size 3 p (wntF D p)) ∧ Hid (Kept (fun b => w.heap.size ≤ b) w wr)) (fun i _ => p - (intOf i).toNat)
          case atStart => exact ⟨0, rfl, by omega, HG4, HW4, HK4⟩
          case round =>
            obtain ⟨x, rfl, hx, H1, H2, H3⟩ := hrel
            by_cases hxp : x < p
            · have hc1 := H1.out.cell hxp
              have hc2 := H2.out.cell hxp
              simp only [wntF, hxp, if_true] at hc1 hc2
              generalize want (D x) = y at *
              go_wp2_with fail
              go_quiet (fail)
              go_wp2_with fail
              go_round
              case rel => exact ⟨x + 1, by go_num, by omega, rowIs_drewN H1.out _, rowIs_drewN H2.out _, H3.out.drewN _⟩
              case measure => simp [intOf]; omega
            · go_wp2_with fail
              go_ret
              exact ⟨rfl, H3.out.below (Nat.le_refl _) (fun _ h => h)⟩
end Go.Proofs.YbulkzkcDoor.Rd
