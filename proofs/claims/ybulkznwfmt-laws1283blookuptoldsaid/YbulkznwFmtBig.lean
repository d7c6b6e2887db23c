import Derived.Test.YbulkznwFmtSmall
namespace Go.Proofs.YbulkznwFmt.Lk
open Go.RowKit Go.Extern.Stop Go.Stop Go.Extern
set_option linter.unusedVariables false

set_option maxRecDepth 20000 in
set_option maxHeartbeats 1600000 in
theorem big_no (F : Interp) (ta : Option Addr) (n tcap h kk big k : Nat) (idx : Int) (w w1 : World) (hF : F.answers w.tape) (hn : n ≤ 1024) (hh : h < 4294967296) (hk : kk % 17 = k) (hkk : kk ≤ 255) (hbig : big ≤ 255) (hb : 128 ≤ big)
    (r : Nat) (hr : Hid (big % 4 = r)) (w3 : World) (hmk2 : ∀ w, (Instr.makeSlice 24 (.int .i64 ((65534 : Int) + (r : Int))) (.int .i64 ((65534 : Int) + (r : Int)))).run Ybaf.prog w = .ok (.slice (some ⟨w.heap.size, 0, none⟩) (65534 + r) (65534 + r)) (w.alloc (.cells (madeCells #[.int .u8 0] (65534 + r)) 5)))
    (hap : Hid (∀ ty, (Builtin.append_ #[22, 22] ty #[.slice (some ⟨w.heap.size, 0, none⟩) n (n + 1), .slice (some ⟨w1.heap.size + 1, 0, none⟩) 1 1]).run Ybaf.prog ((w1.alloc (.cells (madeCells #[.int .u8 0] (65534 + r)) 5)).alloc (.cells #[.slice (some ⟨w1.heap.size, 0, none⟩) (65534 + r) (65534 + r)] 24)) = .ok (.slice (some ⟨w.heap.size, 0, none⟩) (n + 1) (n + 1)) w3))
    (HCP : Hid (∀ ty, (Builtin.copy_ #[22, 22] ty #[.slice (some ⟨w.heap.size, 0, none⟩) n (n + 1), .slice ta n tcap]).run Ybaf.prog (w.alloc (.cells (madeCells #[.slice none 0 0] (n + 1)) 24)) = .ok (goInt n) w1))
    (hK2 : Hid (Kept (fun b => w.heap.size ≤ b) w w3)) (hbit : Hid (h.testBit k = false)) :
    Calls Ybaf.prog 3 #[.slice ta n tcap, .int .u32 h, .int .u8 kk, .int .i64 idx, .int .u8 big] w fun e w' => e = .returned (.bool true) ∧ Below w.heap.size w w' := by
  have hmk := run_make22 n (by omega)
  have hki : (kk : Int) % 17 = (k : Int) := by omega
  have hk17 : k < 17 := by omega
  have hst := fcell h k hk17
  have hq := nil24
  have hri : (big : Int) % 4 = (r : Int) := by have := hr.out; omega
  have hr4 : r < 4 := by have := hr.out; omega
  have hsb := shr_bit h k hh _ hbit.out
  simp only [Bool.not_false] at hsb
  have HC := toHid (rdata_err (w3.heap.size + 1) (some ⟨w.heap.size, 0, none⟩) (n + 1) (n + 1) w3.heap.size k _ (wAt_tab w3 h k idx _) (fun s => look_no F _ (n + 1) (n + 1) w3.heap.size k h idx s _ (by rw [(wAt_kept none' w3 h k idx _).tape, hK2.out.tape]; exact hF) hk17 hh hbit (wAt_has w3 h k idx _) (wAt_val w3 h k hk17 idx _)))
  unfold wAt at HC
  go_enter Ybaf.func3, Ybaf.ntmps3
  go_wp2_with first
    | (refine wpList_copy4 22 22 rfl _ _ rfl (u := .slice (some ⟨w.heap.size, 0, none⟩) n (n + 1)) (v := .slice ta n tcap) rfl rfl HCP.out ?_)
    | (at_builtin; refine wpList_append4 22 22 rfl _ _ rfl (u := .slice (some ⟨w.heap.size, 0, none⟩) n (n + 1)) (v := .slice (some ⟨w1.heap.size + 1, 0, none⟩) 1 1) rfl rfl hap.out ?_)
    | (go_at_call 4; refine HC.out.mono ?_; rintro e w' ⟨a, rfl, hK⟩)
  all_goals (
    go_ret
    exact ⟨rfl, (hK2.out.trans ((wAt_kept _ w3 h k idx (.slice (some ⟨w.heap.size, 0, none⟩) (n + 1) (n + 1))).trans hK.any)).below (Nat.le_refl _) (fun _ h => h)⟩)

set_option maxRecDepth 20000 in
set_option maxHeartbeats 1600000 in
theorem big_bad (F : Interp) (ta : Option Addr) (n tcap h kk big k : Nat) (idx : Int) (w w1 : World) (hF : F.answers w.tape) (hn : n ≤ 1024) (hh : h < 4294967296) (hk : kk % 17 = k) (hkk : kk ≤ 255) (hbig : big ≤ 255) (hb : 128 ≤ big)
    (r : Nat) (hr : Hid (big % 4 = r)) (w3 : World) (hmk2 : ∀ w, (Instr.makeSlice 24 (.int .i64 ((65534 : Int) + (r : Int))) (.int .i64 ((65534 : Int) + (r : Int)))).run Ybaf.prog w = .ok (.slice (some ⟨w.heap.size, 0, none⟩) (65534 + r) (65534 + r)) (w.alloc (.cells (madeCells #[.int .u8 0] (65534 + r)) 5)))
    (hap : Hid (∀ ty, (Builtin.append_ #[22, 22] ty #[.slice (some ⟨w.heap.size, 0, none⟩) n (n + 1), .slice (some ⟨w1.heap.size + 1, 0, none⟩) 1 1]).run Ybaf.prog ((w1.alloc (.cells (madeCells #[.int .u8 0] (65534 + r)) 5)).alloc (.cells #[.slice (some ⟨w1.heap.size, 0, none⟩) (65534 + r) (65534 + r)] 24)) = .ok (.slice (some ⟨w.heap.size, 0, none⟩) (n + 1) (n + 1)) w3))
    (HCP : Hid (∀ ty, (Builtin.copy_ #[22, 22] ty #[.slice (some ⟨w.heap.size, 0, none⟩) n (n + 1), .slice ta n tcap]).run Ybaf.prog (w.alloc (.cells (madeCells #[.slice none 0 0] (n + 1)) 24)) = .ok (goInt n) w1))
    (hK2 : Hid (Kept (fun b => w.heap.size ≤ b) w w3)) (hbit : Hid (h.testBit k = true)) (hi : idx < 0 ∨ (((n + 1) : Nat) : Int) ≤ idx) :
    Calls Ybaf.prog 3 #[.slice ta n tcap, .int .u32 h, .int .u8 kk, .int .i64 idx, .int .u8 big] w fun e w' => e = .returned (.bool true) ∧ Below w.heap.size w w' := by
  have hmk := run_make22 n (by omega)
  have hki : (kk : Int) % 17 = (k : Int) := by omega
  have hk17 : k < 17 := by omega
  have hst := fcell h k hk17
  have hq := nil24
  have hri : (big : Int) % 4 = (r : Int) := by have := hr.out; omega
  have hr4 : r < 4 := by have := hr.out; omega
  have hsb := shr_bit h k hh _ hbit.out
  simp only [Bool.not_true] at hsb
  have HC := toHid (rdata_err (w3.heap.size + 1) (some ⟨w.heap.size, 0, none⟩) (n + 1) (n + 1) w3.heap.size k _ (wAt_tab w3 h k idx _) (fun s => look_bad F _ (n + 1) (n + 1) w3.heap.size k h idx s _ (by rw [(wAt_kept none' w3 h k idx _).tape, hK2.out.tape]; exact hF) hk17 hh hbit (wAt_has w3 h k idx _) (wAt_val w3 h k hk17 idx _) hi (by omega)))
  unfold wAt at HC
  go_enter Ybaf.func3, Ybaf.ntmps3
  go_wp2_with first
    | (refine wpList_copy4 22 22 rfl _ _ rfl (u := .slice (some ⟨w.heap.size, 0, none⟩) n (n + 1)) (v := .slice ta n tcap) rfl rfl HCP.out ?_)
    | (at_builtin; refine wpList_append4 22 22 rfl _ _ rfl (u := .slice (some ⟨w.heap.size, 0, none⟩) n (n + 1)) (v := .slice (some ⟨w1.heap.size + 1, 0, none⟩) 1 1) rfl rfl hap.out ?_)
    | (go_at_call 4; refine HC.out.mono ?_; rintro e w' ⟨a, rfl, hK⟩)
  all_goals (
    go_ret
    exact ⟨rfl, (hK2.out.trans ((wAt_kept _ w3 h k idx (.slice (some ⟨w.heap.size, 0, none⟩) (n + 1) (n + 1))).trans hK.any)).below (Nat.le_refl _) (fun _ h => h)⟩)

set_option maxRecDepth 20000 in
set_option maxHeartbeats 1600000 in
theorem big_ok (F : Interp) (ta : Option Addr) (n tcap h kk big k : Nat) (idx : Int) (w w1 : World) (hF : F.answers w.tape) (hn : n ≤ 1024) (hh : h < 4294967296) (hk : kk % 17 = k) (hkk : kk ≤ 255) (hbig : big ≤ 255) (hb : 128 ≤ big)
    (r : Nat) (hr : Hid (big % 4 = r)) (w3 : World) (hmk2 : ∀ w, (Instr.makeSlice 24 (.int .i64 ((65534 : Int) + (r : Int))) (.int .i64 ((65534 : Int) + (r : Int)))).run Ybaf.prog w = .ok (.slice (some ⟨w.heap.size, 0, none⟩) (65534 + r) (65534 + r)) (w.alloc (.cells (madeCells #[.int .u8 0] (65534 + r)) 5)))
    (hap : Hid (∀ ty, (Builtin.append_ #[22, 22] ty #[.slice (some ⟨w.heap.size, 0, none⟩) n (n + 1), .slice (some ⟨w1.heap.size + 1, 0, none⟩) 1 1]).run Ybaf.prog ((w1.alloc (.cells (madeCells #[.int .u8 0] (65534 + r)) 5)).alloc (.cells #[.slice (some ⟨w1.heap.size, 0, none⟩) (65534 + r) (65534 + r)] 24)) = .ok (.slice (some ⟨w.heap.size, 0, none⟩) (n + 1) (n + 1)) w3))
    (HCP : Hid (∀ ty, (Builtin.copy_ #[22, 22] ty #[.slice (some ⟨w.heap.size, 0, none⟩) n (n + 1), .slice ta n tcap]).run Ybaf.prog (w.alloc (.cells (madeCells #[.slice none 0 0] (n + 1)) 24)) = .ok (goInt n) w1))
    (hK2 : Hid (Kept (fun b => w.heap.size ≤ b) w w3)) (hbit : Hid (h.testBit k = true)) (i : Nat) (hi : idx = i) (hiN : i < (n + 1)) (ea : Option Addr) (el ec : Nat) (L : List Value) (hT : Hid (Tab w3 w.heap.size (n + 1) L)) (hLi : Hid (L[i]? = some (.slice ea el ec))) (hRd : Hid (Readable w3 ea el ec)) (hel : el ≤ 65535) (hel2 : el ≤ 9223372036854775807) (hlt : Hid (w.heap.size < w3.heap.size)):
    Calls Ybaf.prog 3 #[.slice ta n tcap, .int .u32 h, .int .u8 kk, .int .i64 idx, .int .u8 big] w fun e w' => e = .returned (.bool true) ∧ Below w.heap.size w w' := by
  have hmk := run_make22 n (by omega)
  have hki : (kk : Int) % 17 = (k : Int) := by omega
  have hk17 : k < 17 := by omega
  have hst := fcell h k hk17
  have hq := nil24
  have hri : (big : Int) % 4 = (r : Int) := by have := hr.out; omega
  have hr4 : r < 4 := by have := hr.out; omega
  subst hi
  have hsb := shr_bit h k hh _ hbit.out
  simp only [Bool.not_true] at hsb
  have HC := toHid (rdata_ok (w3.heap.size + 1) (some ⟨w.heap.size, 0, none⟩) (n + 1) (n + 1) w3.heap.size k ea el ec _ (wAt_tab w3 h k i _) hel (fun s => look_ok w.heap.size (n + 1) (n + 1) w3.heap.size k h i s _ _ hk17 hh hbit (wAt_has w3 h k _ _) (wAt_val w3 h k hk17 _ _) hiN (by omega) ((hT.out.kept (wAt_kept none' w3 h k _ _) id).cell hLi.out)))
  unfold wAt at HC
  go_enter Ybaf.func3, Ybaf.ntmps3
  go_wp2_with first
    | (refine wpList_copy4 22 22 rfl _ _ rfl (u := .slice (some ⟨w.heap.size, 0, none⟩) n (n + 1)) (v := .slice ta n tcap) rfl rfl HCP.out ?_)
    | (at_builtin; refine wpList_append4 22 22 rfl _ _ rfl (u := .slice (some ⟨w.heap.size, 0, none⟩) n (n + 1)) (v := .slice (some ⟨w1.heap.size + 1, 0, none⟩) 1 1) rfl rfl hap.out ?_)
    | (go_at_call 4; refine HC.out.mono ?_; rintro e w' ⟨rfl, hK⟩; have hcell := ((hT.out.kept (wAt_kept none' w3 h k i _) id).kept hK id).cell hLi.out; have HE := toHid (equal_any ea el ec w' ((hRd.out.kept (wAt_kept none' w3 h k i _) (fun _ _ => id)).kept hK (fun _ _ => id))))
    | (go_at_call 5; refine HE.out.mono ?_; rintro e w'' ⟨rfl, rfl⟩)
  all_goals (
    go_ret
    exact ⟨rfl, (hK2.out.trans ((wAt_kept _ w3 h k i (.slice (some ⟨w.heap.size, 0, none⟩) (n + 1) (n + 1))).trans hK.any)).below (Nat.le_refl _) (fun _ h => h)⟩)

set_option maxRecDepth 20000 in
set_option maxHeartbeats 1600000 in
theorem big_over (F : Interp) (ta : Option Addr) (n tcap h kk big k : Nat) (idx : Int) (w w1 : World) (hF : F.answers w.tape) (hn : n ≤ 1024) (hh : h < 4294967296) (hk : kk % 17 = k) (hkk : kk ≤ 255) (hbig : big ≤ 255) (hb : 128 ≤ big)
    (r : Nat) (hr : Hid (big % 4 = r)) (w3 : World) (hmk2 : ∀ w, (Instr.makeSlice 24 (.int .i64 ((65534 : Int) + (r : Int))) (.int .i64 ((65534 : Int) + (r : Int)))).run Ybaf.prog w = .ok (.slice (some ⟨w.heap.size, 0, none⟩) (65534 + r) (65534 + r)) (w.alloc (.cells (madeCells #[.int .u8 0] (65534 + r)) 5)))
    (hap : Hid (∀ ty, (Builtin.append_ #[22, 22] ty #[.slice (some ⟨w.heap.size, 0, none⟩) n (n + 1), .slice (some ⟨w1.heap.size + 1, 0, none⟩) 1 1]).run Ybaf.prog ((w1.alloc (.cells (madeCells #[.int .u8 0] (65534 + r)) 5)).alloc (.cells #[.slice (some ⟨w1.heap.size, 0, none⟩) (65534 + r) (65534 + r)] 24)) = .ok (.slice (some ⟨w.heap.size, 0, none⟩) (n + 1) (n + 1)) w3))
    (HCP : Hid (∀ ty, (Builtin.copy_ #[22, 22] ty #[.slice (some ⟨w.heap.size, 0, none⟩) n (n + 1), .slice ta n tcap]).run Ybaf.prog (w.alloc (.cells (madeCells #[.slice none 0 0] (n + 1)) 24)) = .ok (goInt n) w1))
    (hK2 : Hid (Kept (fun b => w.heap.size ≤ b) w w3)) (hbit : Hid (h.testBit k = true)) (i : Nat) (hi : idx = i) (hiN : i < (n + 1)) (ea : Option Addr) (el ec : Nat) (L : List Value) (hT : Hid (Tab w3 w.heap.size (n + 1) L)) (hLi : Hid (L[i]? = some (.slice ea el ec))) (hRd : Hid (Readable w3 ea el ec)) (hel : 65535 < el) (hel2 : el ≤ 9223372036854775807) (hlt : Hid (w.heap.size < w3.heap.size)):
    Calls Ybaf.prog 3 #[.slice ta n tcap, .int .u32 h, .int .u8 kk, .int .i64 idx, .int .u8 big] w fun e w' => e = .returned (.bool true) ∧ Below w.heap.size w w' := by
  have hmk := run_make22 n (by omega)
  have hki : (kk : Int) % 17 = (k : Int) := by omega
  have hk17 : k < 17 := by omega
  have hst := fcell h k hk17
  have hq := nil24
  have hri : (big : Int) % 4 = (r : Int) := by have := hr.out; omega
  have hr4 : r < 4 := by have := hr.out; omega
  subst hi
  have hsb := shr_bit h k hh _ hbit.out
  simp only [Bool.not_true] at hsb
  have HC := toHid (rdata_big F (w3.heap.size + 1) (some ⟨w.heap.size, 0, none⟩) (n + 1) (n + 1) w3.heap.size k ea el ec _ (by rw [(wAt_kept none' w3 h k i _).tape, hK2.out.tape]; exact hF) (wAt_tab w3 h k i _) hel hel2 (fun s => look_ok w.heap.size (n + 1) (n + 1) w3.heap.size k h i s _ _ hk17 hh hbit (wAt_has w3 h k _ _) (wAt_val w3 h k hk17 _ _) hiN (by omega) ((hT.out.kept (wAt_kept none' w3 h k _ _) id).cell hLi.out)))
  unfold wAt at HC
  go_enter Ybaf.func3, Ybaf.ntmps3
  go_wp2_with first
    | (refine wpList_copy4 22 22 rfl _ _ rfl (u := .slice (some ⟨w.heap.size, 0, none⟩) n (n + 1)) (v := .slice ta n tcap) rfl rfl HCP.out ?_)
    | (at_builtin; refine wpList_append4 22 22 rfl _ _ rfl (u := .slice (some ⟨w.heap.size, 0, none⟩) n (n + 1)) (v := .slice (some ⟨w1.heap.size + 1, 0, none⟩) 1 1) rfl rfl hap.out ?_)
    | (go_at_call 4; refine HC.out.mono ?_; rintro e w' ⟨a, rfl, hK⟩; have hcell := ((hT.out.kept (wAt_kept none' w3 h k i _) id).kept hK id).cell hLi.out; have HE := toHid (equal_any ea el ec w' ((hRd.out.kept (wAt_kept none' w3 h k i _) (fun _ _ => id)).kept hK (fun _ _ => id))))
    | (go_at_call 5; refine HE.out.mono ?_; rintro e w'' ⟨rfl, rfl⟩)
  all_goals (
    go_ret
    exact ⟨rfl, (hK2.out.trans ((wAt_kept _ w3 h k i (.slice (some ⟨w.heap.size, 0, none⟩) (n + 1) (n + 1))).trans hK.any)).below (Nat.le_refl _) (fun _ h => h)⟩)
end Go.Proofs.YbulkznwFmt.Lk
