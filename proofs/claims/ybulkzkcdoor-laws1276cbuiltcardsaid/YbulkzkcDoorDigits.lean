import Derived.Test.YbulkzkcDoorBytes
namespace Go.Proofs.YbulkzkcDoor.Rd
open Go.RowKit

/-- The bytes of a string, as numbers. -/
def nums (s : ByteArray) : List Nat := s.data.toList.map UInt8.toNat
theorem nums_len (s : ByteArray) : (nums s).length = s.size := by simp [nums]
theorem nums_get (s : ByteArray) (k : Nat) (h : k < s.size) : (nums s)[k]? = some (s[k]).toNat := by
  have h1 : k < s.data.size := h
  have e : s.data[k]? = some s[k] := by rw [Array.getElem?_eq_getElem h1]; rfl
  simp [nums, e]
theorem nums_extract (s : ByteArray) (a b : Nat) : nums (s.extract a b) = ((nums s).take b).drop a := by
  simp [nums, ByteArray.data_extract, List.map_drop, List.map_take, List.drop_take]

theorem lead_eq {l : List Nat} {k : Nat} (h1 : k ≤ l.length) (h2 : k ≤ 2) (hd : ∀ j, j < k → ∃ c, l[j]? = some c ∧ isD c = true) (hstop : k = l.length ∨ k = 2 ∨ ∃ c, l[k]? = some c ∧ isD c = false) : lead l = k := by
  match l, k with
  | [], 0 => rfl
  | [a], 0 =>
    rcases hstop with h | h | ⟨c, h, hc⟩
    · simp at h
    · omega
    · simp at h; subst h; simp [lead, hc]
  | [a], 1 =>
    obtain ⟨c, h, hc⟩ := hd 0 (by omega)
    simp at h; subst h; simp [lead, hc]
  | a :: b :: r, 0 =>
    rcases hstop with h | h | ⟨c, h, hc⟩
    · simp at h
    · omega
    · simp at h; subst h; simp [lead, hc]
  | a :: b :: r, 1 =>
    obtain ⟨c, h, hc⟩ := hd 0 (by omega)
    simp at h; subst h
    rcases hstop with h | h | ⟨d, h, hd⟩
    · simp at h
    · omega
    · simp at h; subst h; simp [lead, hc, hd]
  | a :: b :: r, 2 =>
    obtain ⟨c, h, hc⟩ := hd 0 (by omega)
    simp at h; subst h
    obtain ⟨d, h, hd⟩ := hd 1 (by omega)
    simp at h; subst h
    simp [lead, hc, hd]
  | [], k + 1 => simp at h1
  | [a], k + 2 => simp at h1
  | a :: b :: r, k + 3 => omega

set_option maxHeartbeats 800000 in
theorem leading_any (s : ByteArray) (w : World) (hs : s.size ≤ 100000) (n : Nat) (hn : Hid (lead (nums s) = n)) :
    Calls Ybad.prog 9 #[.string s, .int .i64 2] w fun e w' => e = .returned (.tuple #[.string (s.extract 0 n), .string (s.extract n s.size)]) ∧ ∃ m, w' = w.drewN m := by
  go_enter Ybad.func9, Ybad.ntmps9
  go_wp2_with fail
  go_loop [6] (fun i => ∃ k : Nat, i = .int .i64 k ∧ k ≤ s.size ∧ k ≤ 2 ∧ ∀ j, j < k → ∃ c, (nums s)[j]? = some c ∧ isD c = true) (fun i => 3 - (intOf i).toNat)
  case atStart => exact ⟨0, rfl, by omega, by omega, fun j h => absurd h (by omega)⟩
  case round =>
    obtain ⟨k, rfl, hk1, hk2, hd0⟩ := hrel
    have hd := toHid hd0
    clear hd0
    by_cases h1 : k < s.size
    · by_cases h2 : k < 2
      · have hget := toHid (nums_get s k h1)
        cases hD : isD (s[k]).toNat with
        | true =>
          have HC : Hid (∀ w, Calls Ybad.prog 13 #[.int .u8 ((s[k]).toNat : Nat)] w fun e w' => e = .returned (.bool true) ∧ w = w') := fun w => by
            have := isDigit_any (s[k]).toNat w (by have := (s[k]).toNat_lt; omega)
            rw [hD] at this; exact this.mono (fun e w' h => ⟨h.1, h.2.symm⟩)
          have HD := toHid hD
          clear hD
          go_wp2_with (go_at_call 13; refine (HC.out _).mono ?_; rintro e w' ⟨rfl, rfl⟩)
          go_round
          case rel =>
            refine ⟨k + 1, by go_num, by omega, by omega, fun j hj => ?_⟩
            by_cases e : j = k
            · subst e; exact ⟨_, hget.out, HD.out⟩
            · exact hd.out j (by omega)
          case measure => simp [intOf]; omega
        | false =>
          have HC : Hid (∀ w, Calls Ybad.prog 13 #[.int .u8 ((s[k]).toNat : Nat)] w fun e w' => e = .returned (.bool false) ∧ w = w') := fun w => by
            have := isDigit_any (s[k]).toNat w (by have := (s[k]).toNat_lt; omega)
            rw [hD] at this; exact this.mono (fun e w' h => ⟨h.1, h.2.symm⟩)
          obtain rfl : k = n := (lead_eq (by rw [nums_len]; exact hk1) hk2 hd.out (.inr (.inr ⟨_, hget.out, hD⟩))).symm.trans hn.out
          clear hD hn
          go_wp2_with (go_at_call 13; refine (HC.out _).mono ?_; rintro e w' ⟨rfl, rfl⟩)
          go_quiet (fail)
          go_wp2_with fail
          go_ret2
          exact ⟨rfl, _, rfl⟩
      · obtain rfl : k = n := (lead_eq (by rw [nums_len]; exact hk1) hk2 hd.out (.inr (.inl (by omega)))).symm.trans hn.out
        clear hn
        go_wp2_with fail
        go_quiet (fail)
        go_wp2_with fail
        go_ret2
        exact ⟨rfl, _, rfl⟩
    · obtain rfl : k = n := (lead_eq (by rw [nums_len]; exact hk1) hk2 hd.out (.inl (by rw [nums_len]; omega))).symm.trans hn.out
      clear hn
      go_wp2_with fail
      go_quiet (fail)
      go_wp2_with fail
      go_ret2
      exact ⟨rfl, _, rfl⟩
end Go.Proofs.YbulkzkcDoor.Rd
