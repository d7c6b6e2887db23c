import Derived.Test.YbulkzkcDoorModel
namespace Go.Proofs.YbulkzkcDoor.Rd
open Go.RowKit

theorem nums_inj {a b : ByteArray} (h : nums a = nums b) : a = b := by
  have e : a.data.toList = b.data.toList := by
    unfold nums at h
    exact (List.map_inj_right (fun x y h => UInt8.toNat_inj.1 h)).1 h
  cases a with | mk x => cases b with | mk y => 
    simp only [ByteArray.mk.injEq]
    exact Array.toList_inj.1 e

def ptrF (g n : Nat) : Nat → Value := fun j => if j < n then .pointer (some ⟨g, j, none⟩) else .pointer none
def iniF (v : Value) (n : Nat) : Nat → Value := fun j => if j < n then v else .int .i64 0
theorem ptrF_succ (g n : Nat) : (fun j => if j = n then Value.pointer (some ⟨g, n, none⟩) else ptrF g n j) = ptrF g (n + 1) := by
  funext j
  unfold ptrF
  by_cases h : j = n
  · subst h; simp
  · rw [if_neg h]; by_cases h2 : j < n
    · rw [if_pos h2, if_pos (by omega)]
    · rw [if_neg h2, if_neg (by omega)]
theorem iniF_succ (v : Value) (n : Nat) : (fun j => if j = n then v else iniF v n j) = iniF v (n + 1) := by
  funext j
  unfold iniF
  by_cases h : j = n
  · subst h; simp
  · rw [if_neg h]; by_cases h2 : j < n
    · rw [if_pos h2, if_pos (by omega)]
    · rw [if_neg h2, if_neg (by omega)]

set_option maxRecDepth 20000 in
set_option maxHeartbeats 800000 in
theorem lawModel_any (S : ByteArray) (n : Nat) (ini : Int) (w : World) (hn : n ≤ 255) :
    Calls Ybad.prog 3 #[.string S, .int .u8 n, .int .i64 ini] w fun e w' => e = .returned (.bool true) ∧ Below w.heap.size w w' := by
  by_cases hS : 1024 < S.size
  · go_enter Ybad.func3, Ybad.ntmps3
    go_wp2_with fail
    go_ret
    exact ⟨rfl, Below.refl _ _⟩
  obtain ⟨k, hk⟩ : ∃ k, n % 5 = k := ⟨_, rfl⟩
  have hk4 : k ≤ 4 := by omega
  have hki : (n : Int) % 5 = (k : Int) := by omega
  have Hk := toHid hk
  clear hk
  have hmk := run_make_row' (P := Ybad.prog) 22 3 (.int .i64 0) 8 Ybad.underlying22 Ybad.info3 rfl .i64 .i64 k (by omega) (by omega)
  have hmk2 := run_make_row' (P := Ybad.prog) 23 24 (.pointer none) 8 Ybad.underlying23 Ybad.info24 rfl .i64 .i64 k (by omega) (by omega)
  go_enter Ybad.func3, Ybad.ntmps3
  go_wp2_with fail
  go_loopw [10] (fun i wr => ∃ n : Nat, i = .int .i64 n ∧ n ≤ k ∧ Hid (wr.rowIs w.heap.size 3 k (iniF (.int .i64 ini) n)) ∧ Hid (wr.rowIs (w.heap.size + 1) 24 k (ptrF w.heap.size n)) ∧ Hid (Kept (fun b => w.heap.size ≤ b) w wr)) (fun i _ => k - (intOf i).toNat)
  case atStart =>
    refine ⟨0, rfl, by omega, ?_, ?_, ?_⟩
    · exact ((World.rowIs_made w (.int .i64 0) k 3).alloc _).congr (fun j _ => by simp [iniF])
    · have := World.rowIs_made (w.alloc (.cells (madeCells #[.int .i64 0] k) 3)) (.pointer none) k 24
      simp at this
      exact this.congr (fun j _ => by simp [ptrF])
    · exact ((Kept.refl _ w).alloc _).alloc _
  case round =>
    obtain ⟨n, rfl, hnk, HG, HP, HK⟩ := hrel
    by_cases hn2 : n < k
    · have hc1 := HG.out.cell hn2
      have hf1 := HG.out.frozen n
      have hc2 := (HP.out.setOther (a := ⟨w.heap.size, n, none⟩) (by simp) (.int .i64 ini)).cell hn2
      have hf2 := (HP.out.setOther (a := ⟨w.heap.size, n, none⟩) (by simp) (.int .i64 ini)).frozen n
      go_wp2_with fail
      go_round
      case rel =>
        refine ⟨n + 1, by go_num, by omega, ?_, ?_, ?_⟩
        · have := (HG.out.set n (.int .i64 ini)).setOther (a := ⟨w.heap.size + 1, n, none⟩) (by simp) (.pointer (some ⟨w.heap.size, n, none⟩))
          rw [iniF_succ] at this
          exact this
        · have := (HP.out.setOther (a := ⟨w.heap.size, n, none⟩) (by simp) (.int .i64 ini)).set n (.pointer (some ⟨w.heap.size, n, none⟩))
          rw [ptrF_succ] at this
          exact this
        · exact (HK.out.setCell (Nat.le_refl _) _).setCell (Nat.le_succ _) _
      case measure => simp [intOf]; omega
    · obtain rfl : n = k := by omega
      have hG := HG.out.congr (g := fun _ => .int .i64 ini) (fun j h => by simp [iniF, h])
      have hP := HP.out.congr (g := fun i => .pointer (some ⟨w.heap.size, i, none⟩)) (fun j h => by simp [ptrF, h])
      obtain ⟨R, ok, vals, hR⟩ : ∃ R ok vals, rd n (nums S) = (R, ok, vals) := ⟨_, _, _, rfl⟩
      have HR := read_any S n (w.heap.size + 1) w.heap.size _ wr (by omega) (by omega) hG hP (by omega) R ok vals hR
      have HR := toHid HR
      have HM := toHid (fun w => model_any S n w (by omega) (by omega) R ok vals hR)
      have hvl : vals.length ≤ n := by have := rd_len n (nums S); rw [hR] at this; exact this
      have HRd := toHid hR
      clear hG hP hR HG HP
      go_wp2_with (go_at_call 5; refine HR.out.mono ?_; rintro e w2 ⟨r, rfl, hr, hrs, hrow, hK2⟩)
      have hlt2 := toHid hrow.lt
      have HK2 := toHid (HK.out.trans (hK2.mono (own' := fun b => w.heap.size ≤ b) (fun b _ e => by have e' : b = w.heap.size := e; omega)))
      have Hrow := toHid hrow
      have Hr := toHid hr
      clear hr hK2 hrow HR
      refine (HM.out _).mono ?_
      rintro e w3 ⟨r3, rfl, hr3, hrow3, hK3⟩
      obtain rfl : r3 = r := nums_inj (hr3.trans Hr.out.symm)
      have Hrow3 := toHid hrow3
      have HrowG := toHid (hK3.row Hrow.out (by have := hlt2.out; omega))
      have HK3 := toHid (HK2.out.trans (hK3.mono (own' := fun b => w.heap.size ≤ b) (fun b _ e => by have e' : b = w2.heap.size := e; have := hlt2.out; omega)))
      generalize hB3 : w2.heap.size = B3 at *
      have HB3 := toHid hB3
      clear hB3 hr3 hrow3 hK3 Hrow HK2 Hr
      go_wp2_with fail
      clear hmk hmk2 HM
      go_loopw [17] (fun i wr => ∃ m : Nat, i = .int .i64 m ∧ m ≤ n ∧ Hid (wr.rowIs w.heap.size 3 n (gotF vals (fun _ => .int .i64 ini))) ∧ Hid (wr.rowIs B3 3 n (gotF vals (fun _ => .int .i64 0))) ∧ Hid (Kept (fun b => w.heap.size ≤ b) w wr)) (fun i _ => n - (intOf i).toNat)
      case atStart => exact ⟨0, rfl, by omega, HrowG, Hrow3, HK3⟩
      case round =>
        obtain ⟨m, rfl, hm, H1, H2, H3⟩ := hrel
        by_cases hmn : m < n
        · by_cases hmv : m < vals.length
          · have hc1 := H1.out.cell hmn
            have hc2 := H2.out.cell hmn
            simp only [gotF, hmv, if_true] at hc1 hc2
            generalize vals.getD m 0 = y at *
            go_wp2_with fail
            go_quiet (fail)
            go_wp2_with fail
            go_round
            case rel => exact ⟨m + 1, by go_num, by omega, rowIs_drewN H1.out _, rowIs_drewN H2.out _, H3.out.drewN _⟩
            case measure => simp [intOf]; omega
          · have hc1 := H1.out.cell hmn
            simp only [gotF, hmv, if_false] at hc1
            go_wp2_with fail
            go_round
            case rel => exact ⟨m + 1, by go_num, by omega, H1, H2, H3⟩
            case measure => simp [intOf]; omega
        · go_wp2_with fail
          go_ret
          exact ⟨rfl, H3.out.below (Nat.le_refl _) (fun _ h => h)⟩
end Go.Proofs.YbulkzkcDoor.Rd
