import Derived.Test.YbulkzkcDoorProg
import Derived.Test.YbulkzkcDoorPlain
import Derived.WalkKit
import Derived.WalkLawsBesides
import Derived.WalkSpells
import Derived.KernelRfl
import Derived.BigQuiet
import Derived.Deep.QuietTactic
import Derived.Deep.DeepMust
import Derived.Deep.DeepCutAuto
import Derived.Laws.BitsAllLaws
namespace Go.Proofs.YbulkzkcDoor.Rd
open Go.RowKit

theorem toHid {p : Prop} (h : p) : Hid p := h
theorem ret_bool {a b : Bool} (h : a = b) : Ending.returned (.bool a) = .returned (.bool b) := by rw [h]

set_option maxHeartbeats 400000 in
theorem isDigit_any (c : Nat) (w : World) (hc : c ≤ 255) : Calls Ybad.prog 13 #[.int .u8 c] w fun e w' => e = .returned (.bool (isD c)) ∧ w' = w := by
  by_cases h1 : 48 ≤ c
  · go_enter Ybad.func13, Ybad.ntmps13
    go_wp2
    go_ret
    exact ⟨ret_bool (by unfold isD; rw [Bool.eq_iff_iff]; simp [h1]; omega), rfl⟩
  · go_enter Ybad.func13, Ybad.ntmps13
    go_wp2
    go_ret
    exact ⟨ret_bool (by unfold isD; simp [h1]), rfl⟩

set_option maxHeartbeats 800000 in
theorem punct_any (c : Nat) (w : World) (hc : c ≤ 255) : Calls Ybad.prog 8 #[.int .u8 c] w fun e w' => e = .returned (.bool (punct c)) ∧ w' = w := by
  have hcase : c < 33 ∨ 126 < c ∨ (48 ≤ c ∧ c ≤ 57) ∨ (97 ≤ c ∧ c ≤ 122) ∨ (65 ≤ c ∧ c ≤ 90) ∨ (33 ≤ c ∧ c ≤ 47) ∨ (58 ≤ c ∧ c ≤ 64) ∨ (91 ≤ c ∧ c ≤ 96) ∨ (123 ≤ c ∧ c ≤ 126) := by omega
  rcases hcase with h | h | ⟨h, h'⟩ | ⟨h, h'⟩ | ⟨h, h'⟩ | ⟨h, h'⟩ | ⟨h, h'⟩ | ⟨h, h'⟩ | ⟨h, h'⟩
  all_goals
    go_enter Ybad.func8, Ybad.ntmps8
    go_wp2
    go_ret
    exact ⟨ret_bool (by unfold punct isD; rw [Bool.eq_iff_iff]; simp; omega), rfl⟩

theorem or32 : ∀ c, c < 256 → (97 ≤ (c ||| 32) ∧ (c ||| 32) ≤ 122) = ((65 ≤ c ∧ c ≤ 90) ∨ (97 ≤ c ∧ c ≤ 122)) := by
  have h : (List.range 256).all (fun c => decide (97 ≤ (c ||| 32) ∧ (c ||| 32) ≤ 122) == decide ((65 ≤ c ∧ c ≤ 90) ∨ (97 ≤ c ∧ c ≤ 122))) = true := by decide +kernel
  intro c hc
  have := List.all_eq_true.1 h c (by simpa using hc)
  exact propext (decide_eq_decide.mp (beq_iff_eq.mp this))

set_option maxHeartbeats 800000 in
theorem cpunct_any (c : Nat) (w : World) (hc : c ≤ 255) : Calls Ybad.prog 11 #[.int .u8 c] w fun e w' => e = .returned (.bool (punct c)) ∧ w' = w := by
  have hor := u8_or_nat c 32 (by omega) (by omega)
  have h32 := or32 c (by omega)
  generalize c ||| 32 = l at *
  have hl : ((97 ≤ l ∧ l ≤ 122) ∧ ((65 ≤ c ∧ c ≤ 90) ∨ (97 ≤ c ∧ c ≤ 122))) ∨ ((l < 97 ∨ 122 < l) ∧ ¬ ((65 ≤ c ∧ c ≤ 90) ∨ (97 ≤ c ∧ c ≤ 122))) := by
    by_cases hh : (65 ≤ c ∧ c ≤ 90) ∨ (97 ≤ c ∧ c ≤ 122)
    · left; exact ⟨h32.mpr hh, hh⟩
    · right; exact ⟨by have : ¬ (97 ≤ l ∧ l ≤ 122) := fun e => hh (h32.mp e); omega, hh⟩
  clear h32
  rw [show ((32 : Nat) : Int) = 32 from rfl] at hor
  by_cases h1 : c ≤ 32
  · go_enter Ybad.func11, Ybad.ntmps11
    go_wp2
    go_ret
    exact ⟨ret_bool (by unfold punct; simp; omega), rfl⟩
  by_cases h2 : 127 ≤ c
  · go_enter Ybad.func11, Ybad.ntmps11
    go_wp2
    go_ret
    exact ⟨ret_bool (by unfold punct; simp; omega), rfl⟩
  by_cases h3 : 48 ≤ c ∧ c ≤ 57
  · obtain ⟨h3, h4⟩ := h3
    go_enter Ybad.func11, Ybad.ntmps11
    go_wp2
    go_ret
    exact ⟨ret_bool (by unfold punct isD; simp; omega), rfl⟩
  have hd : c < 48 ∨ 57 < c := by omega
  rcases hd with h4 | h4 <;> rcases hl with ⟨⟨a, b⟩, d⟩ | ⟨a | a, d⟩
  · omega
  all_goals
    go_enter Ybad.func11, Ybad.ntmps11
    go_wp2
    go_ret
    exact ⟨ret_bool (by unfold punct isD; rw [Bool.eq_iff_iff]; simp; omega), rfl⟩
end Go.Proofs.YbulkzkcDoor.Rd
