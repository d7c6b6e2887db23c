import Derived.Test.YbulkzimFilter
namespace Go.Proofs.Ybulkzim.Comp
open Go.RowKit

/-- Behind filter: c events are left, in heap order. -/
structure FilDone (w : World) (b bx g gh gk n W : Nat) (s : SimC) (p q K : Nat → Bool) (A P : Nat → Int) (c : Nat) (V : List Nat) (w' : World) : Prop where
  due : Due w' g n A P V
  len : V.length = c
  perm : List.Perm V (kept K n)
  heap : heapFrom A P 0 V
  rs : w'.rowIs b 43 211 (simF { s with dv := .slice (some ⟨g, 0, none⟩) c n, sn := s.sn - ((n : Int) - (c : Int)) })
  rh : w'.rowIs gh 25 W (wf (off p K n))
  rk : w'.rowIs gk 25 W (wf (off q K n))
  rx : w'.rowIs bx 23 1 (fun _ => .pointer (some ⟨b, 0, none⟩))
  kp : Kept (own4 b g gh gk) w w'

theorem run_clear0 (w : World) (ty : TypeId) (a : Option Addr) (cap : Nat) : (Builtin.clear_ #[27] ty #[.slice a 0 cap]).run Yba.prog w = .ok (.tuple #[]) w := by
  cases a <;> simp [Builtin.clear_, run_underlying Yba.underlying27]

/-- From the cleared row to the end of filter. -/
theorem fil_done {w wr w1 : World} {b bx g gh gk n W c : Nat} {s : SimC} {p q K : Nat → Bool} {A P : Nat → Int} {E : List Nat} (F : FilRel w b bx g gh gk n W s p q K A P n c E wr) (ap : Apart b bx g gh gk) (hn : n ≤ 1024) (hc : c ≤ n)
    (hd : Due w1 g n A P (E.take c)) (hk : Kept (fun k => k = g) wr w1) :
    w1.rowIs b 43 211 (simF { s with sn := s.sn - ((n : Int) - (c : Int)) }) ∧
    Calls Yba.prog 18 #[.slice (some ⟨g, 0, none⟩) c n] (w1.setCell ⟨b, 4, none⟩ (.slice (some ⟨g, 0, none⟩) c n)) fun e w' => e = .returned (.tuple #[]) ∧ ∃ V, FilDone w b bx g gh gk n W s p q K A P c V w' := by
  have r1 := hk.row F.rs ap.h1
  have r2 := r1.set 4 (.slice (some ⟨g, 0, none⟩) c n)
  rw [simF_dv] at r2
  have hs : Kept (fun k => k = b) w1 (w1.setCell ⟨b, 4, none⟩ (.slice (some ⟨g, 0, none⟩) c n)) := (Kept.refl (fun k => k = b) w1).setCell (p := ⟨b, 4, none⟩) rfl _
  have hlen : (E.take c).length = c := by have := F.len; simp; omega
  refine ⟨r1, (init_any _ g n c A P (E.take c) (hd.kept hs (fun e => ap.h1 e.symm)) hlen (by omega)).mono ?_⟩
  rintro e w' ⟨rfl, V, d, l, pm, hh, kp⟩
  refine ⟨rfl, V, d, l, by rw [← F.tk]; exact pm, hh, kp.row r2 ap.h1, ?_, ?_, ?_, ?_⟩
  · exact kp.row (hs.row (hk.row F.rh (fun e => ap.h4 e.symm)) (fun e => ap.h2 e.symm)) (fun e => ap.h4 e.symm)
  · exact kp.row (hs.row (hk.row F.rk (fun e => ap.h5 e.symm)) (fun e => ap.h3 e.symm)) (fun e => ap.h5 e.symm)
  · exact kp.row (hs.row (hk.row F.rx ap.h8) ap.h7) ap.h8
  · exact ((F.kp.trans (hk.mono (fun k _ e => by unfold own4; omega))).trans (hs.mono (fun k _ e => by unfold own4; omega))).trans (kp.mono (fun k _ e => by unfold own4; omega))

set_option maxHeartbeats 1600000 in
theorem filter_any (w : World) (b bx g gh gk n W : Nat) (s : SimC) (p q K : Nat → Bool) (A P : Nat → Int) (E0 : List Nat) (hr : FilRel w b bx g gh gk n W s p q K A P 0 0 E0 w) (ap : Apart b bx g gh gk)
    (hdv : s.dv = .slice (some ⟨g, 0, none⟩) n n) (hhv : s.hv = .slice (some ⟨gh, 0, none⟩) W W) (hkv : s.kv = .slice (some ⟨gk, 0, none⟩) W W) (hn : n ≤ 1024) (hW : W = (n + 63) / 64) (hq : ∀ i, i < n → q i = K i) (hsn : s.sn = n) (C : Nat) (hC : Hid ((kept K n).length = C)) :
    Calls Yba.prog 14 #[.pointer (some ⟨b, 4, none⟩), .func (.func 11) #[] #[.pointer (some ⟨bx, 0, none⟩)]] w fun e w' => e = .returned (.int .i64 C) ∧ ∃ V, FilDone w b bx g gh gk n W s p q K A P C V w' := by
  have cb4 := hr.rs.cell (i := 4) (by omega)
  simp only [simF, reduceIte, hdv] at cb4
  go_enter Yba.func14, Yba.ntmps14
  go_wp2_with fail
  go_loopw [6, 13] (fun m i wr => ∃ k c : Nat, ∃ E, i = .int .i64 k ∧ m = .int .i64 c ∧ k ≤ n ∧ FilRel w b bx g gh gk n W s p q K A P k c E wr) (fun _ i _ => 1100 - (intOf i).toNat)
  case atStart => exact ⟨0, 0, E0, rfl, rfl, by omega, hr⟩
  case round =>
    clear hr cb4
    obtain ⟨i, c, E, rfl, rfl, hi, F⟩ := hrel
    have hc : c ≤ i := by rw [F.cnt]; exact kept_le K i
    by_cases hlt : i < n
    · have hEi := F.tail i (Nat.le_refl _) hlt
      have hEl := F.len
      obtain ⟨c0, c1, c2, c3, c4⟩ := F.due.cells (i := i) (by omega)
      rw [hEi] at c0 c1 c2 c3
      have hiW : i / 64 < W := by omega
      cases hK : K i with
      | false =>
        have HC := toHid (keep_yes wr b bx g (i * 5) gk W i _ (off q K i) F.rx c3 F.rs hkv F.rk (by omega) (by omega) hiW (by rw [off_at, hq i hlt, hK]))
        have HN : Hid (∀ m, FilRel w b bx g gh gk n W s p q K A P (i + 1) (c + 1) (E.set c i) (put5 (wr.drewN m) g c A P i)) := fun m => (F.drewN m).yes ap hK hlt
        obtain ⟨⟨v0, d0⟩, ⟨v1, d1⟩, ⟨v2, d2⟩, ⟨v3, d3⟩, ⟨v4, d4⟩⟩ := And.intro (F.due.some (i := c) (by omega) 0 (by omega)) (And.intro (F.due.some (i := c) (by omega) 1 (by omega)) (And.intro (F.due.some (i := c) (by omega) 2 (by omega)) (And.intro (F.due.some (i := c) (by omega) 3 (by omega)) (F.due.some (i := c) (by omega) 4 (by omega)))))
        simp only [Nat.add_zero] at d0
        have f0 := F.due.frozen (c * 5)
        have f1 := F.due.frozen (c * 5 + 1)
        have f2 := F.due.frozen (c * 5 + 2)
        have f3 := F.due.frozen (c * 5 + 3)
        have f4 := F.due.frozen (c * 5 + 4)
        clear F hq hK hEi hEl hdv hhv hkv
        go_wp2_with fail
        refine HC.out.mono ?_
        rintro e w' ⟨rfl, n', rfl⟩
        go_wp2_with fail
        go_roundw
        case rel => exact ⟨i + 1, c + 1, _, by go_num, by go_num, by omega, HN.out n'⟩
        case measure => simp [intOf]; omega
      | true =>
        have HC := toHid (keep_no wr b bx g (i * 5) gh gk W i _ (off p K i) (off q K i) F.rx c3 F.rs hhv hkv F.rh F.rk ap.h2 ap.h3 ap.h6 (by omega) (by omega) hiW (by show 0 ≤ s.sn - _; omega) (by show s.sn - _ ≤ 4000; omega) (by rw [off_at, hq i hlt, hK]))
        go_wp2_with fail
        refine HC.out.mono ?_
        rintro e w' ⟨rfl, b1, b2, b3, b4⟩
        have HN := F.no ap hK b1 b2 b3 b4
        clear F hq hK hEi hEl hdv hhv hkv b1 b2 b3 b4
        go_wp2_with fail
        go_roundw
        case rel => exact ⟨i + 1, c, E, by go_num, rfl, by omega, HN⟩
        case measure => simp [intOf]; omega
    · obtain rfl : i = n := by omega
      have hEl := F.len
      obtain rfl : c = C := F.cnt.trans hC.out
      clear hC
      by_cases hcn : c < i
      · obtain ⟨w1, hrun, hd1, hk1⟩ := clear_due wr g i c A P E F.due hcn
        obtain ⟨r1, HC⟩ := fil_done F ap hn hc hd1 hk1
        have HC' := toHid HC
        have cb := r1.cell (i := 4) (by omega)
        have fb := r1.frozen 4
        have Hrun := toHid hrun
        clear F hq hEl hhv hkv HC r1 hrun hd1 hk1 hW
        go_wp2_with (refine wpList_clear (u := .slice (some ⟨g, c * 5, none⟩) (i - c) (i - c)) rfl (Hrun.out _ _) ?_)
        refine HC'.out.mono ?_
        rintro e w' ⟨rfl, HV⟩
        go_wp2_with fail
        go_ret
        exact ⟨rfl, HV⟩
      · obtain rfl : c = i := by omega
        have hd1 : Due wr g c A P (E.take c) := F.due.take c
        obtain ⟨r1, HC⟩ := fil_done F ap hn hc hd1 (Kept.refl _ wr)
        have HC' := toHid HC
        have cb := r1.cell (i := 4) (by omega)
        have fb := r1.frozen 4
        clear F hq hEl hhv hkv HC r1 hd1 hW
        go_wp2_with (refine wpList_clear (u := .slice (some ⟨g, 0, none⟩) 0 0) rfl (run_clear0 _ _ _ _) ?_)
        refine HC'.out.mono ?_
        rintro e w' ⟨rfl, HV⟩
        go_wp2_with fail
        go_ret
        exact ⟨rfl, HV⟩
end Go.Proofs.Ybulkzim.Comp
