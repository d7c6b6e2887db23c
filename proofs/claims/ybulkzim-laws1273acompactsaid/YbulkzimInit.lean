import Derived.Test.YbulkzimDown
namespace Go.Proofs.Ybulkzim.Comp
open Go.RowKit

def InitRel (w : World) (g n m : Nat) (A P : Nat → Int) (V : List Nat) (k : Nat) (wr : World) : Prop :=
  ∃ V', Due wr g n A P V' ∧ V'.length = m ∧ List.Perm V' V ∧ heapFrom A P k V' ∧ Kept (fun k => k = g) w wr

set_option maxHeartbeats 800000 in
theorem init_any (w : World) (g n m : Nat) (A P : Nat → Int) (V : List Nat) (hd : Due w g n A P V) (hV : V.length = m) (hm : m ≤ 1024) :
    Calls Yba.prog 18 #[.slice (some ⟨g, 0, none⟩) m n] w fun e w' => e = .returned (.tuple #[]) ∧ InitRel w g n m A P V 0 w' := by
  have hR : InitRel w g n m A P V (m / 2) w := ⟨V, hd, hV, List.Perm.refl _, fun j h1 h2 h3 => by unfold par at h3; omega, Kept.refl _ _⟩
  clear hd hV
  go_enter Yba.func18, Yba.ntmps18
  go_wp2_with fail
  go_loopw [2] (fun i wr => ∃ k : Nat, i = .int .i64 ((k : Int) - 1) ∧ k ≤ m / 2 ∧ InitRel w g n m A P V k wr) (fun i _ => (intOf i + 1).toNat)
  case atStart => exact ⟨m / 2, by go_num, Nat.le_refl _, hR⟩
  case round =>
    obtain ⟨k, rfl, hk, V', hd, hV, hp, hh, hkp⟩ := hrel
    cases k with
    | zero =>
      go_wp2_with fail
      go_end0
      exact ⟨rfl, V', hd, hV, hp, hh, hkp⟩
    | succ k =>
      have e1 : ((k + 1 : Nat) : Int) - 1 = (k : Int) := by omega
      rw [e1]
      have HC := toHid (down_any wr g n m k A P V' hd hV (by omega) hm hh)
      clear hd hh hR e1
      go_wp2_with fail
      refine HC.out.mono ?_
      rintro e w' ⟨rfl, V2, hd2, hV2, hp2, hh2, hk2⟩
      go_wp2_with fail
      go_roundw
      case rel => exact ⟨k, by go_num, by omega, V2, hd2, hV2, hp2.trans hp, hh2, hkp.trans hk2⟩
      case measure => simp [intOf]
end Go.Proofs.Ybulkzim.Comp
