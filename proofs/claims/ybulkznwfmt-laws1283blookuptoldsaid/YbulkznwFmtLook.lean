import Derived.Test.YbulkznwFmtBase
namespace Go.Proofs.YbulkznwFmt.Lk
open Go.RowKit Go.Extern.Stop Go.Stop Go.Extern
set_option linter.unusedVariables false

set_option maxHeartbeats 800000 in
theorem at_bad (F : Interp) (ta : Option Addr) (n cap : Nat) (i : Int) (s : ByteArray) (w : World) (hF : F.answers w.tape) (hi : i < 0 ∨ (n : Int) ≤ i) (hn : n ≤ 9223372036854775807) :
    Calls Ybaf.prog 10 #[.slice ta n cap, .int .i64 i, .string s] w fun e w' => ∃ a, e = .returned (.tuple #[.slice none 0 0, .iface 56 (.pointer (some a))]) ∧ Kept none' w w' := by
  have HC := toHid (errorf_at F w.heap.size s i n (w.alloc (.cells #[.iface 9 (.string s), .iface 2 (.int .i64 i), .iface 3 (.int .i64 n)] 20)) hF
    (cell_of_row _ _ _ _ _ _ (heap_alloc_new _ _)) (cell_of_row _ _ _ _ _ _ (heap_alloc_new _ _)) (cell_of_row _ _ _ _ _ _ (heap_alloc_new _ _)))
  by_cases h : i < 0
  · go_enter Ybaf.func10, Ybaf.ntmps10
    go_wp2_with (go_at_call 9; refine HC.out.mono ?_; rintro e w' ⟨a, rfl, hK⟩)
    go_ret2
    exact ⟨_, rfl, (((Kept.refl _ w).alloc _).trans hK)⟩
  · have h2 : (n : Int) ≤ i := by omega
    go_enter Ybaf.func10, Ybaf.ntmps10
    go_wp2_with (go_at_call 9; refine HC.out.mono ?_; rintro e w' ⟨a, rfl, hK⟩)
    go_ret2
    exact ⟨_, rfl, (((Kept.refl _ w).alloc _).trans hK)⟩

set_option maxHeartbeats 800000 in
theorem at_ok (tb n cap i : Nat) (s : ByteArray) (v : Value) (w : World) (hi : i < n) (hn : n ≤ 100000) (hc : w.cell? ⟨tb, i, none⟩ = some v) :
    Calls Ybaf.prog 10 #[.slice (some ⟨tb, 0, none⟩) n cap, .int .i64 i, .string s] w fun e w' => e = .returned (.tuple #[v, .nilIface]) ∧ w' = w := by
  go_enter Ybaf.func10, Ybaf.ntmps10
  go_wp2_with fail
  go_ret2
  exact ⟨rfl, rfl⟩

theorem and_pow (h k : Nat) (b : Bool) (hb : h.testBit k = b) : ((((h &&& 2 ^ k : Nat) : Int)) != 0) = b := by
  have e : h &&& 2 ^ k = if b then 2 ^ k else 0 := by
    apply Nat.eq_of_testBit_eq
    intro t
    rw [Nat.testBit_and, Nat.testBit_two_pow]
    by_cases ht : k = t
    · subst ht
      rw [hb]
      cases b
      · simp
      · rw [if_pos rfl, Nat.testBit_two_pow]; simp
    · cases b
      · simp [ht]
      · rw [if_pos rfl, Nat.testBit_two_pow]; simp [ht]
  rw [e]
  have := Nat.two_pow_pos k
  cases b
  · rfl
  · rw [if_pos rfl]
    generalize 2 ^ k = z at *
    simp; omega

set_option maxHeartbeats 800000 in
theorem get_any (fb k h : Nat) (x : Int) (w : World) (hk : k < 17) (hh : h < 4294967296) (b : Bool) (hb : Hid (h.testBit k = b)) (h0 : w.cell? ⟨fb, 0, none⟩ = some (.int .u32 h)) (h1 : w.cell? ⟨fb, 1 + k, none⟩ = some (.int .i64 x)) :
    Calls Ybaf.prog 8 #[.pointer (some ⟨fb, 0, none⟩), .int .i64 k] w fun e w' => ∃ m, e = .returned (.tuple #[.int .i64 x, .bool b]) ∧ w' = w.drewN m := by
  go_enter Ybaf.func8, Ybaf.ntmps8
  go_wp2_with fail
  go_quiet (fail)
  go_wp2_with fail
  go_ret2
  have hlt : 2 ^ k < 4294967296 := Nat.lt_of_le_of_lt (Nat.pow_le_pow_right (by omega) (by omega : k ≤ 17)) (by decide)
  have e1 : ((2 : Int) ^ k % 4294967296) = ((2 ^ k : Nat) : Int) := by
    have e0 : (2 : Int) ^ k = ((2 ^ k : Nat) : Int) := by rw [Int.natCast_pow]; rfl
    rw [e0]
    generalize 2 ^ k = z at hlt ⊢
    omega
  have e2 : (bits BinOp.and IntKind.u32 (h : Int) (2 ^ k % 4294967296) != 0) = b := by
    rw [e1, u32_and_nat h (2 ^ k) hh hlt]
    exact and_pow h k b hb.out
  exact ⟨_, congrArg (fun z => Ending.returned (.tuple #[.int .i64 x, .bool z])) e2, rfl⟩

/-- An error, and the world behind. -/
def IsErr (v : Value) : Prop := ∃ T a, v = .iface T (.pointer (some a))

set_option maxHeartbeats 800000 in
theorem unfit_any (F : Interp) (B : Nat) (i n : Int) (w : World) (hF : F.answers w.tape) (hc : w.cell? ⟨B, 0, none⟩ = some (.iface 3 (.int .i64 i))) (hc1 : w.cell? ⟨B, 1, none⟩ = some (.iface 3 (.int .i64 n))) :
    Calls Ybaf.prog 7 #[.string ⟨#[82, 68, 65, 84, 65, 32, 111, 102, 32, 37, 100, 32, 111, 99, 116, 101, 116, 115, 32, 105, 115, 32, 108, 111, 110, 103, 101, 114, 32, 116, 104, 97, 110, 32, 37, 100]⟩, .slice (some ⟨B, 0, none⟩) 2 2] w fun e w' => ∃ a, e = .returned (.iface 51 (.pointer (some a))) ∧ Kept none' w w' := by
  have HC := toHid (errorf_oct F B i n w hF hc hc1)
  go_enter Ybaf.func7, Ybaf.ntmps7
  go_wp2_with (go_at_call 9; refine HC.out.mono ?_; rintro e w' ⟨a, rfl, hK⟩)
  go_ret
  exact ⟨_, rfl, hK.alloc _⟩

set_option maxHeartbeats 800000 in
theorem look_no (F : Interp) (ta : Option Addr) (n cap fb k h : Nat) (x : Int) (s : ByteArray) (w : World) (hF : F.answers w.tape) (hk : k < 17) (hh : h < 4294967296) (hb : Hid (h.testBit k = false)) (h0 : w.cell? ⟨fb, 0, none⟩ = some (.int .u32 h)) (h1 : w.cell? ⟨fb, 1 + k, none⟩ = some (.int .i64 x)) :
    Calls Ybaf.prog 6 #[.slice ta n cap, .pointer (some ⟨fb, 0, none⟩), .int .i64 k, .string s] w fun e w' => ∃ a, e = .returned (.tuple #[.slice none 0 0, .iface 56 (.pointer (some a))]) ∧ Kept none' w w' := by
  have HG := toHid (get_any fb k h x w hk hh false hb h0 h1)
  have HC := toHid (fun m => errorf_no F w.heap.size s ((w.drewN m).alloc (.cells #[.iface 9 (.string s)] 20)) hF (cell_of_row _ _ _ _ _ _ (heap_alloc_new _ _)))
  go_enter Ybaf.func6, Ybaf.ntmps6
  go_wp2_with first | (go_at_call 8; refine HG.out.mono ?_; rintro e w' ⟨m, rfl, rfl⟩) | (go_at_call 9; refine (HC.out _).mono ?_; rintro e w' ⟨a, rfl, hK⟩)
  go_ret2
  exact ⟨_, rfl, (((Kept.refl _ w).drewN _).alloc _).trans hK⟩

set_option maxHeartbeats 800000 in
theorem look_bad (F : Interp) (ta : Option Addr) (n cap fb k h : Nat) (x : Int) (s : ByteArray) (w : World) (hF : F.answers w.tape) (hk : k < 17) (hh : h < 4294967296) (hb : Hid (h.testBit k = true)) (h0 : w.cell? ⟨fb, 0, none⟩ = some (.int .u32 h)) (h1 : w.cell? ⟨fb, 1 + k, none⟩ = some (.int .i64 x)) (hi : x < 0 ∨ (n : Int) ≤ x) (hn : n ≤ 9223372036854775807) :
    Calls Ybaf.prog 6 #[.slice ta n cap, .pointer (some ⟨fb, 0, none⟩), .int .i64 k, .string s] w fun e w' => ∃ a, e = .returned (.tuple #[.slice none 0 0, .iface 56 (.pointer (some a))]) ∧ Kept none' w w' := by
  have HG := toHid (get_any fb k h x w hk hh true hb h0 h1)
  have HC := toHid (fun m => at_bad F ta n cap x s (w.drewN m) hF hi hn)
  go_enter Ybaf.func6, Ybaf.ntmps6
  go_wp2_with first | (go_at_call 8; refine HG.out.mono ?_; rintro e w' ⟨m, rfl, rfl⟩) | (go_at_call 10; refine (HC.out _).mono ?_; rintro e w' ⟨a, rfl, hK⟩)
  go_ret2
  exact ⟨_, rfl, ((Kept.refl _ w).drewN _).trans hK⟩

set_option maxHeartbeats 800000 in
theorem look_ok (tb n cap fb k h i : Nat) (s : ByteArray) (v : Value) (w : World) (hk : k < 17) (hh : h < 4294967296) (hb : Hid (h.testBit k = true)) (h0 : w.cell? ⟨fb, 0, none⟩ = some (.int .u32 h)) (h1 : w.cell? ⟨fb, 1 + k, none⟩ = some (.int .i64 i)) (hi : i < n) (hn : n ≤ 100000) (hc : w.cell? ⟨tb, i, none⟩ = some v) :
    Calls Ybaf.prog 6 #[.slice (some ⟨tb, 0, none⟩) n cap, .pointer (some ⟨fb, 0, none⟩), .int .i64 k, .string s] w fun e w' => ∃ m, e = .returned (.tuple #[v, .nilIface]) ∧ w' = w.drewN m := by
  have HG := toHid (get_any fb k h i w hk hh true hb h0 h1)
  have HC := toHid (fun m => at_ok tb n cap i s v (w.drewN m) hi hn hc)
  go_enter Ybaf.func6, Ybaf.ntmps6
  go_wp2_with first | (go_at_call 8; refine HG.out.mono ?_; rintro e w' ⟨m, rfl, rfl⟩) | (go_at_call 10; refine (HC.out _).mono ?_; rintro e w' ⟨rfl, rfl⟩)
  go_ret2
  exact ⟨_, rfl, rfl⟩
end Go.Proofs.YbulkznwFmt.Lk
