import Derived.Laws.BitsAllLaws
import Derived.Laws.ShiftsVarLaws
import Derived.IntWalk
/- The words of a set of bits, 64 a word: plain. -/
namespace Go.Proofs.Ybulkzim.Comp

/-- The lowest n bits as p says. -/
def wN (p : Nat → Bool) : Nat → Nat
  | 0 => 0
  | n + 1 => wN p n ||| (if p n then 2 ^ n else 0)

theorem wN_lt (p : Nat → Bool) : ∀ n, wN p n < 2 ^ n
  | 0 => by simp [wN]
  | n + 1 => by
    have h := wN_lt p n
    have h2 : (2 : Nat) ^ n < 2 ^ (n + 1) := Nat.pow_lt_pow_right (by omega) (by omega)
    unfold wN
    refine Nat.or_lt_two_pow (by omega) ?_
    split
    · exact h2
    · exact Nat.two_pow_pos _

theorem wN_bit (p : Nat → Bool) (t : Nat) : ∀ n, (wN p n).testBit t = (decide (t < n) && p t)
  | 0 => by simp [wN]
  | n + 1 => by
    unfold wN
    rw [Nat.testBit_or, wN_bit p t n]
    by_cases e : t = n
    · subst e
      cases h : p t <;> simp
    · have h2 : (if p n = true then 2 ^ n else 0).testBit t = false := by
        split
        · rw [Nat.testBit_two_pow]; simp; omega
        · simp
      rw [h2]
      have : decide (t < n + 1) = decide (t < n) := by simp; omega
      simp [this]

/-- Word j. -/
def word (p : Nat → Bool) (j : Nat) : Nat := wN (fun t => p (64 * j + t)) 64

theorem word_lt (p : Nat → Bool) (j : Nat) : word p j < 18446744073709551616 := wN_lt _ 64
theorem word_bit (p : Nat → Bool) (j t : Nat) (h : t < 64) : (word p j).testBit t = p (64 * j + t) := by simp [word, wN_bit, h]

theorem eq_word (p : Nat → Bool) (j x : Nat) (hx : x < 18446744073709551616) (h : ∀ t, t < 64 → x.testBit t = p (64 * j + t)) : x = word p j := by
  apply Nat.eq_of_testBit_eq
  intro t
  by_cases ht : t < 64
  · rw [word_bit _ _ _ ht, h t ht]
  · have a1 : x.testBit t = false := Nat.testBit_lt_two_pow (Nat.lt_of_lt_of_le hx (by exact Nat.pow_le_pow_right (n := 2) (by omega) (show 64 ≤ t by omega)))
    have a2 : (word p j).testBit t = false := Nat.testBit_lt_two_pow (Nat.lt_of_lt_of_le (word_lt p j) (by exact Nat.pow_le_pow_right (n := 2) (by omega) (show 64 ≤ t by omega)))
    rw [a1, a2]

theorem word_congr (p q : Nat → Bool) (j : Nat) (h : ∀ t, t < 64 → p (64 * j + t) = q (64 * j + t)) : word p j = word q j :=
  eq_word q j _ (word_lt p j) fun t ht => by rw [word_bit _ _ _ ht, h t ht]

theorem word_zero (j : Nat) : word (fun _ => false) j = 0 := (eq_word _ j 0 (by omega) fun t _ => by simp).symm

def clr (p : Nat → Bool) (i : Nat) : Nat → Bool := fun k => p k && !(k == i)
def put (p : Nat → Bool) (i : Nat) : Nat → Bool := fun k => p k || (k == i)

theorem i64_and63 (i : Nat) (h : i < 1024) : bits .and .i64 (i : Int) 63 = ((i % 64 : Nat) : Int) := by
  have := bits_mask .i64 10 (by decide) (fun n h0 h1 => by rw [IntKind.wrap_i64]; omega) 6 (by decide) (i : Int) (by omega) (by omega)
  rw [show (63 : Int) = 2 ^ 6 - 1 from rfl, this]
  omega

theorem pow_lt64 (t : Nat) (ht : t ≤ 63) : 2 ^ t < 18446744073709551616 := by
  have : (2 : Nat) ^ t ≤ 2 ^ 63 := Nat.pow_le_pow_right (by omega) ht
  have : (2 : Nat) ^ 63 = 9223372036854775808 := by decide
  omega

theorem wrap_pow (t : Nat) (ht : t ≤ 63) : IntKind.u64.wrap ((2 : Int) ^ t) = ((2 ^ t : Nat) : Int) := by
  have h := pow_lt64 t ht
  have e : ((2 : Int) ^ t) = ((2 ^ t : Nat) : Int) := by simp
  rw [e]
  clear e
  generalize 2 ^ t = m at *
  simp only [IntKind.wrap, IntKind.bits, IntKind.signed]
  simp
  omega

/-- i's place. -/
theorem place (i : Nat) : 64 * (i / 64) + i % 64 = i := by omega

theorem and_bit (p : Nat → Bool) (i : Nat) : (bits .and .u64 ((word p (i / 64) : Nat) : Int) ((2 ^ (i % 64) : Nat) : Int) != 0) = p i := by
  have ht : i % 64 < 64 := Nat.mod_lt _ (by omega)
  rw [u64_and_nat _ _ (word_lt _ _) (pow_lt64 _ (by omega))]
  have hb := word_bit p (i / 64) (i % 64) ht
  rw [place] at hb
  rw [← hb, Bool.eq_iff_iff]
  simp only [bne_iff_ne, ne_eq]
  constructor
  · intro h
    cases hc : (word p (i / 64)).testBit (i % 64) with
    | true => rfl
    | false =>
      exfalso
      apply h
      have : word p (i / 64) &&& 2 ^ (i % 64) = 0 := by
        apply Nat.eq_of_testBit_eq
        intro s
        rw [Nat.testBit_and, Nat.testBit_two_pow]
        by_cases e : i % 64 = s
        · subst e; simp [hc]
        · simp [e]
      rw [this]; rfl
  · intro hc h
    have h0 : word p (i / 64) &&& 2 ^ (i % 64) = 0 := by omega
    have h1 : (word p (i / 64) &&& 2 ^ (i % 64)).testBit (i % 64) = true := by
      rw [Nat.testBit_and, Nat.testBit_two_pow, hc]; simp
    rw [h0] at h1
    simp at h1

theorem or_bit (p : Nat → Bool) (i : Nat) : bits .or .u64 ((word p (i / 64) : Nat) : Int) ((2 ^ (i % 64) : Nat) : Int) = ((word (put p i) (i / 64) : Nat) : Int) := by
  have ht : i % 64 < 64 := Nat.mod_lt _ (by omega)
  have hp := pow_lt64 (i % 64) (by omega)
  rw [u64_or_nat _ _ (word_lt _ _) hp]
  congr 1
  refine eq_word _ _ _ (Nat.or_lt_two_pow (n := 64) (word_lt _ _) hp) fun s hs => ?_
  rw [Nat.testBit_or, Nat.testBit_two_pow, word_bit _ _ _ hs]
  unfold put
  congr 1
  rw [Bool.eq_iff_iff]
  simp
  omega

theorem andNot_bit (p : Nat → Bool) (i : Nat) : bits .andNot .u64 ((word p (i / 64) : Nat) : Int) ((2 ^ (i % 64) : Nat) : Int) = ((word (clr p i) (i / 64) : Nat) : Int) := by
  have ht : i % 64 < 64 := Nat.mod_lt _ (by omega)
  have hp := pow_lt64 (i % 64) (by omega)
  rw [u64_andNot_nat _ _ (word_lt _ _) hp]
  congr 1
  refine eq_word _ _ _ (Nat.lt_of_le_of_lt Nat.and_le_left (word_lt _ _)) fun s hs => ?_
  rw [Nat.testBit_and, word_bit _ _ _ hs]
  unfold clr
  congr 1
  have e : 18446744073709551615 - 2 ^ (i % 64) = 2 ^ 64 - (2 ^ (i % 64) + 1) := by omega
  rw [e, Nat.testBit_two_pow_sub_succ hp, Nat.testBit_two_pow, Bool.eq_iff_iff]
  simp
  omega

theorem clr_other (p : Nat → Bool) (i j : Nat) (h : j ≠ i / 64) : word (clr p i) j = word p j := by
  refine word_congr _ _ _ fun t ht => ?_
  have : ¬ 64 * j + t = i := by omega
  simp [clr, this]
theorem put_other (p : Nat → Bool) (i j : Nat) (h : j ≠ i / 64) : word (put p i) j = word p j := by
  refine word_congr _ _ _ fun t ht => ?_
  have : ¬ 64 * j + t = i := by omega
  simp [put, this]

/-- '(x >> t) & 1' -/
theorem shr_bit (p : Nat → Bool) (i : Nat) : bits .and .u64 (((word p (i / 64) / 2 ^ (i % 64) : Nat)) : Int) 1 = if p i then 1 else 0 := by
  have hlt : word p (i / 64) / 2 ^ (i % 64) < 18446744073709551616 := Nat.lt_of_le_of_lt (Nat.div_le_self _ _) (word_lt _ _)
  have h := u64_and_nat (word p (i / 64) / 2 ^ (i % 64)) 1 hlt (by omega)
  rw [show ((1 : Nat) : Int) = 1 from rfl] at h
  rw [h, Nat.and_one_is_mod]
  have hb := word_bit p (i / 64) (i % 64) (Nat.mod_lt _ (by omega))
  rw [place, Nat.testBit_eq_decide_div_mod_eq] at hb
  rw [← hb]
  have := Nat.mod_two_eq_zero_or_one (word p (i / 64) / 2 ^ (i % 64))
  rcases this with e | e <;> simp [e]

end Go.Proofs.Ybulkzim.Comp
