import Derived.Test.YbulkznwFmtLook
namespace Go.Proofs.YbulkznwFmt.Lk
open Go.RowKit Go.Extern.Stop Go.Stop Go.Extern
set_option linter.unusedVariables false

set_option maxHeartbeats 800000 in
theorem rdata_err (bb : Nat) (ta : Option Addr) (n cap fb k : Nat) (w : World) (h5 : w.cell? ⟨bb, 5, none⟩ = some (.slice ta n cap))
    (HC : Hid (∀ s, Calls Ybaf.prog 6 #[.slice ta n cap, .pointer (some ⟨fb, 0, none⟩), .int .i64 k, .string s] w fun e w' => ∃ a, e = .returned (.tuple #[.slice none 0 0, .iface 56 (.pointer (some a))]) ∧ Kept none' w w')) :
    Calls Ybaf.prog 4 #[.pointer (some ⟨bb, 0, none⟩), .pointer (some ⟨fb, 0, none⟩), .int .i64 k] w fun e w' => ∃ a, e = .returned (.tuple #[.slice none 0 0, .iface 56 (.pointer (some a))]) ∧ Kept none' w w' := by
  go_enter Ybaf.func4, Ybaf.ntmps4
  go_wp2_with (go_at_call 6; refine (HC.out _).mono ?_; rintro e w' ⟨a, rfl, hK⟩)
  go_ret2
  exact ⟨_, rfl, hK⟩

set_option maxHeartbeats 800000 in
theorem rdata_ok (bb : Nat) (ta : Option Addr) (n cap fb k : Nat) (ea : Option Addr) (el ec : Nat) (w : World) (h5 : w.cell? ⟨bb, 5, none⟩ = some (.slice ta n cap)) (hel : el ≤ 65535)
    (HC : Hid (∀ s, Calls Ybaf.prog 6 #[.slice ta n cap, .pointer (some ⟨fb, 0, none⟩), .int .i64 k, .string s] w fun e w' => ∃ m, e = .returned (.tuple #[.slice ea el ec, .nilIface]) ∧ w' = w.drewN m)) :
    Calls Ybaf.prog 4 #[.pointer (some ⟨bb, 0, none⟩), .pointer (some ⟨fb, 0, none⟩), .int .i64 k] w fun e w' => e = .returned (.tuple #[.slice ea el ec, .nilIface]) ∧ Kept none' w w' := by
  go_enter Ybaf.func4, Ybaf.ntmps4
  go_wp2_with (go_at_call 6; refine (HC.out _).mono ?_; rintro e w' ⟨a, rfl, rfl⟩)
  go_ret2
  exact ⟨rfl, (Kept.refl _ w).drewN _⟩

set_option maxHeartbeats 800000 in
theorem rdata_big (F : Interp) (bb : Nat) (ta : Option Addr) (n cap fb k : Nat) (ea : Option Addr) (el ec : Nat) (w : World) (hF : F.answers w.tape) (h5 : w.cell? ⟨bb, 5, none⟩ = some (.slice ta n cap)) (hel : 65535 < el) (hel2 : el ≤ 9223372036854775807)
    (HC : Hid (∀ s, Calls Ybaf.prog 6 #[.slice ta n cap, .pointer (some ⟨fb, 0, none⟩), .int .i64 k, .string s] w fun e w' => ∃ m, e = .returned (.tuple #[.slice ea el ec, .nilIface]) ∧ w' = w.drewN m)) :
    Calls Ybaf.prog 4 #[.pointer (some ⟨bb, 0, none⟩), .pointer (some ⟨fb, 0, none⟩), .int .i64 k] w fun e w' => ∃ a, e = .returned (.tuple #[.slice ea el ec, .iface 51 (.pointer (some a))]) ∧ Kept none' w w' := by
  have HU := toHid (fun m => unfit_any F w.heap.size el 65535 ((w.drewN m).alloc (.cells #[.iface 3 (.int .i64 el), .iface 3 (.int .i64 65535)] 20)) hF (cell_of_row _ _ _ _ _ _ (heap_alloc_new _ _)) (cell_of_row _ _ _ _ _ _ (heap_alloc_new _ _)))
  go_enter Ybaf.func4, Ybaf.ntmps4
  go_wp2_with first | (go_at_call 6; refine (HC.out _).mono ?_; rintro e w' ⟨m, rfl, rfl⟩) | (go_at_call 7; refine (HU.out _).mono ?_; rintro e w' ⟨a, rfl, hK⟩)
  go_ret2
  exact ⟨_, rfl, (((Kept.refl _ w).drewN _).alloc _).trans hK⟩

/-- A slice of bytes that can be read. -/
def Readable (w : World) (a : Option Addr) (len cap : Nat) : Prop := len = 0 ∨ ∃ b off, a = some ⟨b, off, none⟩ ∧ b < w.heap.size ∧ ∀ j, j < len → ∃ v : UInt8, w.cell? ⟨b, off + j, none⟩ = some (.int .u8 (v.toNat : Int))

theorem conv_str (w : World) (a : Option Addr) (len cap : Nat) (h : Readable w a len cap) : ∃ s : ByteArray, (convert 24 9 (.slice a len cap)).run Ybaf.prog w = .ok (.string s) w := by
  rcases h with rfl | ⟨b, off, rfl, hb, hc⟩
  · cases a with
    | none => exact ⟨⟨#[]⟩, by kernel_rfl⟩
    | some a =>
      have := run_convert_bytes_back (P := Ybaf.prog) w 24 9 5 a cap [] Ybaf.underlying24 Ybaf.underlying5 Ybaf.underlying9 (fun j hj => by simp at hj)
      exact ⟨_, this⟩
  · obtain ⟨f, hf⟩ : ∃ f : Nat → UInt8, ∀ j, j < len → w.cell? ⟨b, off + j, none⟩ = some (.int .u8 ((f j).toNat : Int)) :=
      ⟨fun j => if h : j < len then (hc j h).choose else 0, fun j h => by simp only [dif_pos h]; exact (hc j h).choose_spec⟩
    have := run_convert_bytes_back (P := Ybaf.prog) w 24 9 5 ⟨b, off, none⟩ cap ((List.range len).map f) Ybaf.underlying24 Ybaf.underlying5 Ybaf.underlying9 (fun j hj => by
      have hj' : j < len := by simpa using hj
      have hadd : (⟨b, off, none⟩ : Addr).add j = ⟨b, off + j, none⟩ := by unfold Addr.add; split <;> simp_all
      rw [hadd, hf j hj']
      simp)
    simp only [List.length_map, List.length_range] at this
    exact ⟨_, this⟩

set_option maxHeartbeats 800000 in
theorem equal_any (a : Option Addr) (len cap : Nat) (w : World) (h : Readable w a len cap) :
    Calls Ybaf.prog 5 #[.slice a len cap, .slice a len cap] w fun e w' => e = .returned (.bool true) ∧ w' = w := by
  obtain ⟨s, hs⟩ := conv_str w a len cap h
  go_enter Ybaf.func5, Ybaf.ntmps5
  go_wp2_with fail
  go_ret
  exact ⟨rfl, rfl⟩
end Go.Proofs.YbulkznwFmt.Lk
