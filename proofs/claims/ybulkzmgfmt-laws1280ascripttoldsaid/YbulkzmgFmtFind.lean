import Derived.Test.YbulkzmgFmtSmall
import Derived.Test.YbulkzmgFmtChunk
namespace Go.Proofs.YbulkzmgFmt.Sc
open Go.RowKit Go.Extern.Stop Go.Stop Go.Extern
set_option linter.unusedVariables false

set_option maxHeartbeats 1600000 in
theorem find43 (a : Option Addr) (cap n B : Nat) (f : Nat → Addr) (l : Nat → ByteArray) (k : ByteArray) (w : World) (h : Ptrs w a n f) (hl : ∀ j, j < n → HasL w (f j) (l j)) (hB : w.cell? ⟨B, 0, none⟩ = some (.string k)) (hn : n ≤ 256) :
    Calls Ybaf.prog 43 #[.slice a n cap, .func (.func 37) #[] #[.pointer (some ⟨B, 0, none⟩)]] w fun e w' => ∃ (r : Int) (m : Nat), e = .returned (.int .i64 r) ∧ w' = w.drewN m ∧ ((r = -1 ∧ ∀ j, j < n → l j ≠ k) ∨ (0 ≤ r ∧ ∃ j, j < n ∧ l j = k)) := by
  have h := toHid h
  have hl := toHid hl
  have hB := toHid hB
  go_enter Ybaf.func43, Ybaf.ntmps43
  go_wp2
  go_loopw [8] (fun v wr => ∃ i m : Nat, v = .int .i64 i ∧ i ≤ n ∧ wr = w.drewN m ∧ ∀ j, j < i → l j ≠ k) (fun v _ => n - (intOf v).toNat)
  case atStart => exact ⟨0, 0, rfl, by omega, rfl, by omega⟩
  case round =>
    obtain ⟨i, m, rfl, hi, rfl, hno⟩ := hrel
    by_cases hlt : i < n
    · rcases h.out with rfl | ⟨b, o, rfl, hc⟩
      · omega
      have hci := hc i hlt
      clear hc
      have HC := toHid (close37 (f i) B (l i) k (w.drewN m) (hl.out i hlt) hB.out)
      by_cases he : l i = k
      · have hq : ((l i).toList == k.toList) = true := by rw [he]; simp
        rw [hq] at HC
        go_wp2_with (go_at_call 37; refine HC.out.mono ?_; rintro e w' ⟨rfl, mm, rfl⟩)
        go_ret
        exact ⟨_, _, rfl, rfl, .inr ⟨by omega, i, hlt, he⟩⟩
      · have hq : ((l i).toList == k.toList) = false := by
          cases hx : ((l i).toList == k.toList)
          · rfl
          · exact absurd (str_inj (by simpa using hx)) he
        rw [hq] at HC
        go_wp2_with (go_at_call 37; refine HC.out.mono ?_; rintro e w' ⟨rfl, mm, rfl⟩)
        go_round
        case rel => exact ⟨i + 1, m + mm, by simp, by omega, by simp, fun j hj => by
          by_cases hji : j = i
          · subst hji; exact he
          · exact hno j (by omega)⟩
        case measure => simp [intOf]; omega
    · have hieq : i = n := by omega
      subst hieq
      go_wp2
      go_ret
      exact ⟨_, _, rfl, rfl, .inl ⟨rfl, hno⟩⟩

set_option maxHeartbeats 800000 in
theorem contains36 (a : Option Addr) (cap n B : Nat) (f : Nat → Addr) (l : Nat → ByteArray) (k : ByteArray) (w : World) (h : Ptrs w a n f) (hl : ∀ j, j < n → HasL w (f j) (l j)) (hB : w.cell? ⟨B, 0, none⟩ = some (.string k)) (hn : n ≤ 256) :
    Calls Ybaf.prog 36 #[.slice a n cap, .func (.func 37) #[] #[.pointer (some ⟨B, 0, none⟩)]] w fun e w' => ∃ (r : Bool) (m : Nat), e = .returned (.bool r) ∧ w' = w.drewN m ∧ (r = true ↔ ∃ j, j < n ∧ l j = k) := by
  have H := toHid (find43 a cap n B f l k w h hl hB hn)
  clear h hl hB
  go_enter Ybaf.func36, Ybaf.ntmps36
  go_wp2_with (go_at_call 43; refine H.out.mono ?_; rintro e w' ⟨r, m, rfl, rfl, hr⟩)
  go_ret
  refine ⟨decide (0 ≤ r), _, by first | rfl | simp, rfl, ?_⟩
  rcases hr with ⟨rfl, hr⟩ | ⟨hr, hj⟩
  · simp only [show ¬ (0 : Int) ≤ -1 by omega, decide_false, Bool.false_eq_true, false_iff]
    rintro ⟨j, hj, he⟩
    exact hr j hj he
  · simp [hr, hj]

/-! ### chunks.new -/
def fz : Array Value := #[.string ⟨#[]⟩, .string ⟨#[]⟩, .slice none 0 0, .pointer none, .string ⟨#[]⟩]
def oz : Array Value := #[.int .i64 0, .slice none 0 0, .map none, .slice none 0 0, .map none, .map none]
def NewP (z : Array Value) (t sz cb q fb fo len : Nat) (w : World) (e : Ending) (w' : World) : Prop :=
  ∃ b o fa L, e = .returned (.pointer (some ⟨b, o, none⟩)) ∧ KC (fun x y => x = cb ∧ y = q) w w' ∧ w'.cell? ⟨cb, q, none⟩ = some (.slice fa L L) ∧ (0 < L → fa = some ⟨b, o + 1 * sz, none⟩) ∧ Sh w' b t (256 * sz) ∧ o + (1 + L) * sz = 256 * sz ∧
    ((b = fb ∧ o = fo ∧ L + 1 = len ∧ w'.heap.size = w.heap.size) ∨ (b = w.heap.size ∧ o = 0 ∧ w'.heap.size = w.heap.size + 1 ∧ len < 1 ∧ ∀ j, w'.cell? ⟨b, j, none⟩ = (madeCells z (256 * sz))[j]?))

set_option maxHeartbeats 800000 in
theorem new27 (cb fb fo len : Nat) (fa : Option Addr) (w : World) (hs : Sh w cb 49 11) (hq : w.cell? ⟨cb, 7, none⟩ = some (.slice fa len len)) (hfa : 0 < len → fa = some ⟨fb, fo, none⟩ ∧ Sh w fb 65 (256 * 5) ∧ fo + len * 5 = 256 * 5) (hl : len ≤ 256) :
    Calls Ybaf.prog 27 #[.pointer (some ⟨cb, 7, none⟩)] w (NewP fz 65 5 cb 7 fb fo len w) := by
  have H := toHid (slice34 cb fb fo len 1 fa w hs hq hfa (by omega) (by omega) hl)
  go_enter Ybaf.func27, Ybaf.ntmps27
  go_wp2_with (go_at_call 34; refine H.out.mono ?_; rintro e w' ⟨b, o, fa', L, rfl, hr⟩; have hr := toHid hr)
  go_ret
  exact ⟨b, o, fa', L, rfl, hr.out⟩

set_option maxHeartbeats 800000 in
theorem new13 (cb fb fo len : Nat) (fa : Option Addr) (w : World) (hs : Sh w cb 49 11) (hq : w.cell? ⟨cb, 9, none⟩ = some (.slice fa len len)) (hfa : 0 < len → fa = some ⟨fb, fo, none⟩ ∧ Sh w fb 84 (256 * 6) ∧ fo + len * 6 = 256 * 6) (hl : len ≤ 256) :
    Calls Ybaf.prog 13 #[.pointer (some ⟨cb, 9, none⟩)] w (NewP oz 84 6 cb 9 fb fo len w) := by
  have H := toHid (slice28 cb fb fo len 1 fa w hs hq hfa (by omega) (by omega) hl)
  go_enter Ybaf.func13, Ybaf.ntmps13
  go_wp2_with (go_at_call 28; refine H.out.mono ?_; rintro e w' ⟨b, o, fa', L, rfl, hr⟩; have hr := toHid hr)
  go_ret
  exact ⟨b, o, fa', L, rfl, hr.out⟩
end Go.Proofs.YbulkzmgFmt.Sc
