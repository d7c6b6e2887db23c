import Derived.Test.YbulkzkcDoorMem
namespace Go.Proofs.YbulkzkcDoor.Rd
open Go.RowKit

theorem val_snoc (l : List Nat) (c : Nat) : val (l ++ [c]) = val l * 10 + (c - 48) := by simp [val]
theorem nums_take_succ (s : ByteArray) (k : Nat) (h : k < s.size) : (nums s).take (k + 1) = (nums s).take k ++ [(s[k]).toNat] := by
  have hl : k < (nums s).length := by rw [nums_len]; exact h
  rw [List.take_succ_eq_append_getElem hl]
  have := nums_get s k h
  rw [List.getElem?_eq_getElem hl] at this
  rw [Option.some.inj this]

set_option maxHeartbeats 800000 in
theorem iatoi_any (s : ByteArray) (w : World) (h1 : 1 ≤ s.size) (h2 : s.size ≤ 2) (hd : ∀ k (h : k < s.size), isD (s[k]).toNat = true) (v : Nat) (hv : Hid (val (nums s) = v)) :
    Calls Ybad.prog 14 #[.string s] w fun e w' => e = .returned (.tuple #[.int .i64 v, .nilIface]) ∧ Kept none' w w' := by
  have h0 := hd 0 (by omega)
  simp only [isD, Bool.and_eq_true, decide_eq_true_eq] at h0
  obtain ⟨a0, b0⟩ := h0
  have Hd := toHid hd
  clear hd
  have e45 : ((((s[0]'(by omega)).toNat : Nat) : Int) == 45) = false := by simp; omega
  have e43 : ((((s[0]'(by omega)).toNat : Nat) : Int) == 43) = false := by simp; omega
  obtain ⟨cap, W, hcv, hK, hc⟩ := conv_bytes s w
  have HC := toHid hc
  have HK := toHid hK
  clear hc hK
  go_enter Ybad.func14, Ybad.ntmps14
  go_wp2_with fail
  go_loop [6, 49] (fun n i => ∃ k m : Nat, i = .int .i64 k ∧ n = .int .i64 m ∧ k ≤ s.size ∧ m < 10 ^ k ∧ Hid (val ((nums s).take k) = m)) (fun _ i => 3 - (intOf i).toNat)
  case atStart => exact ⟨0, 0, rfl, rfl, by omega, by omega, rfl⟩
  case round =>
    obtain ⟨k, m, rfl, rfl, hk, hm, Hm⟩ := hrel
    have hm2 : m < 100 := Nat.lt_of_lt_of_le hm (by
      have : k = 0 ∨ k = 1 ∨ k = 2 := by omega
      rcases this with rfl | rfl | rfl <;> omega)
    by_cases hk2 : k < s.size
    · have hcell := HC.out k hk2
      have hdk := Hd.out k hk2
      simp only [isD, Bool.and_eq_true, decide_eq_true_eq] at hdk
      obtain ⟨a1, b1⟩ := hdk
      generalize hcd : (s[k]).toNat = c at *
      have Hcd := toHid hcd
      clear hcd
      have hm3 : m < 10 := by
        have : k = 0 ∨ k = 1 := by omega
        rcases this with rfl | rfl <;> omega
      have hpow : 10 ^ (k + 1) = 10 ^ k * 10 := Nat.pow_succ 10 k
      go_wp2_with fail
      go_round
      case rel =>
        refine ⟨k + 1, m * 10 + (c - 48), by go_num, by go_num, by omega, by omega, ?_⟩
        show val _ = _
        rw [nums_take_succ s k hk2, val_snoc, Hm.out, Hcd.out]
      case measure => simp [intOf]; omega
    · obtain rfl : k = s.size := by omega
      obtain rfl : m = v := by
        have := Hm.out
        rw [← hv.out, ← this, List.take_of_length_le (by rw [nums_len]; omega)]
      go_wp2_with fail
      go_ret2
      exact ⟨rfl, HK.out⟩

theorem atoi_any (s : ByteArray) (w : World) (h1 : 1 ≤ s.size) (h2 : s.size ≤ 2) (hd : ∀ k (h : k < s.size), isD (s[k]).toNat = true) (v : Nat) (hv : Hid (val (nums s) = v)) :
    Calls Ybad.prog 10 #[.string s] w fun e w' => e = .returned (.tuple #[.int .i64 v, .nilIface]) ∧ Kept none' w w' := by
  have HC := toHid (fun w => iatoi_any s w h1 h2 hd v hv)
  clear hd hv
  go_enter Ybad.func10, Ybad.ntmps10
  go_wp2_with (go_at_call 14; refine (HC.out _).mono ?_; rintro e w' ⟨rfl, hK⟩)
  go_ret2
  exact ⟨rfl, hK⟩
end Go.Proofs.YbulkzkcDoor.Rd
