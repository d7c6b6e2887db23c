import Derived.Test.YbulkzimSim
import Derived.BigQuiet
import Derived.Deep.QuietTactic
import Derived.RegionTactic
import Derived.BigRegion
import Derived.Deep.RegionWith
namespace Go.Proofs.Ybulkzim.Comp
open Go.RowKit

theorem ret_bool {a b : Bool} (h : a = b) : Ending.returned (.bool a) = .returned (.bool b) := by rw [h]

set_option maxHeartbeats 400000 in
theorem cancelled_any (w : World) (b gk W i : Nat) (s : SimC) (p : Nat → Bool) (rs : w.rowIs b 43 211 (simF s)) (hkv : s.kv = .slice (some ⟨gk, 0, none⟩) W W) (rk : w.rowIs gk 25 W (wf p)) (_hW : W ≤ 1024) (hi : i < 1024) (hiW : i / 64 < W) :
    Calls Yba.prog 12 #[.pointer (some ⟨b, 199, none⟩), .int .i64 i] w fun e w' => e = .returned (.bool (p i)) ∧ ∃ n, w' = w.drewN n := by
  have c := rs.cell (i := 201) (by omega)
  simp only [simF, reduceIte, Nat.reduceEqDiff, hkv] at c
  have ck := rk.cell hiW
  unfold wf at ck
  have h1 : (0 : Int) ≤ (i : Int) / 64 := by omega
  have h2 : (i : Int) / 64 < (W : Int) := by omega
  have h3 : ((i : Int) / 64).toNat = i / 64 := by omega
  have r1 := i64_and63 i hi
  have ht : i % 64 ≤ 63 := by omega
  have HB : Hid (_ = _) := and_bit p i
  rw [← wrap_pow _ ht] at HB
  generalize i % 64 = t at *
  generalize word p (i / 64) = kw at *
  clear hkv rs rk
  go_enter Yba.func12, Yba.ntmps12
  go_wp2
  go_quiet (fail)
  go_wp2
  go_ret
  exact ⟨ret_bool HB.out, _, rfl⟩

set_option maxHeartbeats 400000 in
theorem release_any (w : World) (b gh W i : Nat) (s : SimC) (p : Nat → Bool) (rs : w.rowIs b 43 211 (simF s)) (hhv : s.hv = .slice (some ⟨gh, 0, none⟩) W W) (rh : w.rowIs gh 25 W (wf p)) (hbg : b ≠ gh) (_hW : W ≤ 1024) (hi : i < 1024) (hiW : i / 64 < W) (hs1 : 0 ≤ s.sn) (hs2 : s.sn ≤ 4000) :
    Calls Yba.prog 17 #[.pointer (some ⟨b, 199, none⟩), .int .i64 i] w fun e w' => e = .returned (.tuple #[]) ∧ w'.rowIs b 43 211 (simF { s with sn := s.sn - 1 }) ∧ w'.rowIs gh 25 W (wf (clr p i)) ∧ Kept (fun k => k = b ∨ k = gh) w w' := by
  have c := rs.cell (i := 200) (by omega)
  simp only [simF, reduceIte, Nat.reduceEqDiff, hhv] at c
  have cn := rs.cell (i := 202) (by omega)
  simp only [simF, reduceIte, Nat.reduceEqDiff] at cn
  have fn := rs.frozen 202
  have ck := rh.cell hiW
  have fk := rh.frozen (i / 64)
  unfold wf at ck
  have h1 : (0 : Int) ≤ (i : Int) / 64 := by omega
  have h2 : (i : Int) / 64 < (W : Int) := by omega
  have h3 : ((i : Int) / 64).toNat = i / 64 := by omega
  have r1 := i64_and63 i hi
  have ht : i % 64 ≤ 63 := by omega
  have HB := andNot_bit p i
  rw [← wrap_pow _ ht] at HB
  have HR : Hid (∀ n, (((w.setCell ⟨gh, i / 64, none⟩ (.int .u64 ((word (clr p i) (i / 64) : Nat) : Int))).setCell ⟨b, 202, none⟩ (.int .i64 (s.sn - 1))).drewN n).rowIs b 43 211 (simF { s with sn := s.sn - 1 }) ∧
      (((w.setCell ⟨gh, i / 64, none⟩ (.int .u64 ((word (clr p i) (i / 64) : Nat) : Int))).setCell ⟨b, 202, none⟩ (.int .i64 (s.sn - 1))).drewN n).rowIs gh 25 W (wf (clr p i)) ∧
      Kept (fun k => k = b ∨ k = gh) w (((w.setCell ⟨gh, i / 64, none⟩ (.int .u64 ((word (clr p i) (i / 64) : Nat) : Int))).setCell ⟨b, 202, none⟩ (.int .i64 (s.sn - 1))).drewN n)) := by
    intro n
    have a1 := rh.set (i / 64) (.int .u64 ((word (clr p i) (i / 64) : Nat) : Int))
    rw [wf_clr] at a1
    have a2 := (rs.setOther (a := ⟨gh, i / 64, none⟩) hbg (.int .u64 ((word (clr p i) (i / 64) : Nat) : Int))).set 202 (.int .i64 (s.sn - 1))
    rw [simF_sn] at a2
    exact ⟨a2, a1.setOther (a := ⟨b, 202, none⟩) (fun e => hbg e.symm) _, (((Kept.refl _ w).setCell (.inr rfl) _).setCell (.inl rfl) _).drewN n⟩
  generalize word (clr p i) (i / 64) = kw' at *
  generalize word p (i / 64) = kw at *
  generalize i % 64 = t at *
  generalize s.sn = sn at *
  clear hhv rs rh
  go_enter Yba.func17, Yba.ntmps17
  go_wp2
  go_region
  go_wp2
  go_end0
  exact ⟨rfl, HR.out 1⟩

set_option maxHeartbeats 400000 in
theorem drop_any (w : World) (b gh gk W i : Nat) (s : SimC) (p q : Nat → Bool) (rs : w.rowIs b 43 211 (simF s)) (hhv : s.hv = .slice (some ⟨gh, 0, none⟩) W W) (hkv : s.kv = .slice (some ⟨gk, 0, none⟩) W W) (rh : w.rowIs gh 25 W (wf p)) (rk : w.rowIs gk 25 W (wf q))
    (hbg : b ≠ gh) (hbk : b ≠ gk) (hgk : gh ≠ gk) (hW : W ≤ 1024) (hi : i < 1024) (hiW : i / 64 < W) (hs1 : 0 ≤ s.sn) (hs2 : s.sn ≤ 4000) :
    Calls Yba.prog 13 #[.pointer (some ⟨b, 199, none⟩), .int .i64 i] w fun e w' => e = .returned (.tuple #[]) ∧ w'.rowIs b 43 211 (simF { s with sn := s.sn - 1 }) ∧ w'.rowIs gh 25 W (wf (clr p i)) ∧ w'.rowIs gk 25 W (wf (clr q i)) ∧ Kept (fun k => k = b ∨ k = gh ∨ k = gk) w w' := by
  have c := rs.cell (i := 201) (by omega)
  simp only [simF, reduceIte, Nat.reduceEqDiff, hkv] at c
  have ck := rk.cell hiW
  have fk := rk.frozen (i / 64)
  unfold wf at ck
  have h1 : (0 : Int) ≤ (i : Int) / 64 := by omega
  have h2 : (i : Int) / 64 < (W : Int) := by omega
  have h3 : ((i : Int) / 64).toNat = i / 64 := by omega
  have r1 := i64_and63 i hi
  have ht : i % 64 ≤ 63 := by omega
  have HB := andNot_bit q i
  rw [← wrap_pow _ ht] at HB
  have a1 := rk.set (i / 64) (.int .u64 ((word (clr q i) (i / 64) : Nat) : Int))
  rw [wf_clr] at a1
  have a2 := rs.setOther (a := ⟨gk, i / 64, none⟩) hbk (.int .u64 ((word (clr q i) (i / 64) : Nat) : Int))
  have a3 := rh.setOther (a := ⟨gk, i / 64, none⟩) hgk (.int .u64 ((word (clr q i) (i / 64) : Nat) : Int))
  have a4 : Kept (fun k => k = b ∨ k = gh ∨ k = gk) w (w.setCell ⟨gk, i / 64, none⟩ (.int .u64 ((word (clr q i) (i / 64) : Nat) : Int))).drew := ((Kept.refl _ w).setCell (.inr (.inr rfl)) _).drew
  generalize word (clr q i) (i / 64) = kw' at *
  generalize word q (i / 64) = kw at *
  have HC : Hid (Calls Yba.prog 17 #[.pointer (some ⟨b, 199, none⟩), .int .i64 i] (w.setCell ⟨gk, i / 64, none⟩ (.int .u64 kw')).drew fun e w' => e = .returned (.tuple #[]) ∧ w'.rowIs b 43 211 (simF { s with sn := s.sn - 1 }) ∧ w'.rowIs gh 25 W (wf (clr p i)) ∧ w'.rowIs gk 25 W (wf (clr q i)) ∧ Kept (fun k => k = b ∨ k = gh ∨ k = gk) w w') := by
    refine (release_any _ b gh W i s p a2.drew hhv a3.drew hbg hW hi hiW hs1 hs2).mono ?_
    rintro e w' ⟨rfl, b1, b2, b3⟩
    exact ⟨rfl, b1, b2, b3.row a1.drew (by intro h; omega), a4.trans (b3.mono (fun k _ h => by omega))⟩
  generalize i % 64 = t at *
  clear a1 a2 a3 a4 rs rh rk hhv hkv
  go_enter Yba.func13, Yba.ntmps13
  go_wp2_with fail
  go_region
  go_wp2_with fail
  refine HC.out.mono ?_
  rintro e w' ⟨rfl, hq⟩
  go_wp2
  go_end0
  exact ⟨rfl, hq⟩

set_option maxHeartbeats 400000 in
/-- The closure at an event that is not cancelled. -/
theorem keep_yes (w : World) (b bx gd o gk W i : Nat) (s : SimC) (q : Nat → Bool) (rx : w.rowIs bx 23 1 (fun _ => .pointer (some ⟨b, 0, none⟩))) (ce : w.cell? ⟨gd, o + 3, none⟩ = some (.int .i64 i)) (rs : w.rowIs b 43 211 (simF s)) (hkv : s.kv = .slice (some ⟨gk, 0, none⟩) W W) (rk : w.rowIs gk 25 W (wf q))
    (hW : W ≤ 1024) (hi : i < 1024) (hiW : i / 64 < W) (hq : q i = false) :
    Calls Yba.prog 11 #[.pointer (some ⟨gd, o, none⟩), .pointer (some ⟨bx, 0, none⟩)] w fun e w' => e = .returned (.bool true) ∧ ∃ n, w' = w.drewN n := by
  have cx := rx.cell (i := 0) (by omega)
  have HC : Hid (∀ m, Calls Yba.prog 12 #[.pointer (some ⟨b, 199, none⟩), .int .i64 i] (w.drewN m) fun e w' => e = .returned (.bool false) ∧ ∃ n, w' = w.drewN n) := by
    intro m
    refine (cancelled_any (w.drewN m) b gk W i s q rs hkv rk hW hi hiW).mono ?_
    rintro e w' ⟨rfl, n, rfl⟩
    exact ⟨by rw [hq], m + n, by simp [World.drewN, Nat.add_assoc]⟩
  clear rx rs rk hkv hq
  go_enter Yba.func11, Yba.ntmps11
  go_wp2_with fail
  go_quiet ((go_at_call 12; exact HC.out _))
  go_wp2_with fail
  go_ret
  exact ⟨rfl, _, rfl⟩

set_option maxHeartbeats 400000 in
/-- The closure at a cancelled event. -/
theorem keep_no (w : World) (b bx gd o gh gk W i : Nat) (s : SimC) (p q : Nat → Bool) (rx : w.rowIs bx 23 1 (fun _ => .pointer (some ⟨b, 0, none⟩))) (ce : w.cell? ⟨gd, o + 3, none⟩ = some (.int .i64 i)) (rs : w.rowIs b 43 211 (simF s))
    (hhv : s.hv = .slice (some ⟨gh, 0, none⟩) W W) (hkv : s.kv = .slice (some ⟨gk, 0, none⟩) W W) (rh : w.rowIs gh 25 W (wf p)) (rk : w.rowIs gk 25 W (wf q))
    (hbg : b ≠ gh) (hbk : b ≠ gk) (hgk : gh ≠ gk) (hW : W ≤ 1024) (hi : i < 1024) (hiW : i / 64 < W) (hs1 : 0 ≤ s.sn) (hs2 : s.sn ≤ 4000) (hq : q i = true) :
    Calls Yba.prog 11 #[.pointer (some ⟨gd, o, none⟩), .pointer (some ⟨bx, 0, none⟩)] w fun e w' => e = .returned (.bool false) ∧ w'.rowIs b 43 211 (simF { s with sn := s.sn - 1 }) ∧ w'.rowIs gh 25 W (wf (clr p i)) ∧ w'.rowIs gk 25 W (wf (clr q i)) ∧ Kept (fun k => k = b ∨ k = gh ∨ k = gk) w w' := by
  have cx := rx.cell (i := 0) (by omega)
  have HC : Hid (∀ m, Calls Yba.prog 12 #[.pointer (some ⟨b, 199, none⟩), .int .i64 i] (w.drewN m) fun e w' => e = .returned (.bool true) ∧ ∃ n, w' = w.drewN n) := by
    intro m
    refine (cancelled_any (w.drewN m) b gk W i s q rs hkv rk hW hi hiW).mono ?_
    rintro e w' ⟨rfl, n, rfl⟩
    exact ⟨by rw [hq], m + n, by simp [World.drewN, Nat.add_assoc]⟩
  have HD : Hid (∀ W0 : World, (∃ m, W0 = w.drewN m) → Calls Yba.prog 13 #[.pointer (some ⟨b, 199, none⟩), .int .i64 i] W0 fun e w' => e = .returned (.tuple #[]) ∧ w'.rowIs b 43 211 (simF { s with sn := s.sn - 1 }) ∧ w'.rowIs gh 25 W (wf (clr p i)) ∧ w'.rowIs gk 25 W (wf (clr q i)) ∧ Kept (fun k => k = b ∨ k = gh ∨ k = gk) w w') := by
    rintro W0 ⟨m, rfl⟩
    refine (drop_any (w.drewN m) b gh gk W i s p q rs hhv hkv rh rk hbg hbk hgk hW hi hiW hs1 hs2).mono ?_
    rintro e w' ⟨rfl, b1, b2, b3, b4⟩
    exact ⟨rfl, b1, b2, b3, ((Kept.refl _ w).drewN m).trans b4⟩
  clear rx rs rh rk hkv hhv hq
  go_enter Yba.func11, Yba.ntmps11
  go_wp2_with fail
  go_quiet ((go_at_call 12; exact HC.out _))
  go_wp2_with fail
  go_region_with (go_at_call 13; refine (HD.out _ ?_).mono ?_; (exact ⟨nq + 1, rfl⟩); rintro e w' ⟨rfl, hq⟩)
  all_goals
    go_wp2_with fail
    go_ret
    exact ⟨rfl, hq⟩
end Go.Proofs.Ybulkzim.Comp
