import Derived.Test.YbulkzimFilterWalk
namespace Go.Proofs.Ybulkzim.Comp
open Go.RowKit

def isZ : Value → Bool
  | .int .i64 n => n == 0
  | _ => false
theorem isZ_eq {v : Value} (h : isZ v = true) : v = .int .i64 0 := by
  cases v with
  | int k n => cases k <;> simp [isZ] at h; subst h; rfl
  | _ => simp [isZ] at h

theorem zs_bucket (o : Nat) (h1 : 5 ≤ o) (h2 : o < 194) : zscells.getD o .nilFunc = .int .i64 0 := by
  have h : (List.range 189).all (fun k => isZ (zscells.getD (5 + k) .nilFunc)) = true := by decide +kernel
  have := List.all_eq_true.1 h (o - 5) (by simp; omega)
  rw [show 5 + (o - 5) = o by omega] at this
  exact isZ_eq this

theorem simF_bucket (s : SimC) (k : Nat) (hk : k < 63) : simF s (5 + k * 3) = .int .i64 0 := by
  unfold simF
  rw [if_neg (by omega), if_neg (by omega), if_neg (by omega), if_neg (by omega), if_neg (by omega), if_neg (by omega), if_neg (by omega)]
  exact zs_bucket _ (by omega) (by omega)

theorem simF_3 (s : SimC) : simF s 3 = .bool false := by
  kernel_rfl

set_option maxRecDepth 20000 in
set_option maxHeartbeats 1600000 in
theorem qfilter_any (w : World) (b bx g gh gk n W : Nat) (s : SimC) (p q K : Nat → Bool) (A P : Nat → Int) (E0 : List Nat) (hr : FilRel w b bx g gh gk n W s p q K A P 0 0 E0 w) (ap : Apart b bx g gh gk)
    (hdv : s.dv = .slice (some ⟨g, 0, none⟩) n n) (hhv : s.hv = .slice (some ⟨gh, 0, none⟩) W W) (hkv : s.kv = .slice (some ⟨gk, 0, none⟩) W W) (hn : n ≤ 1024) (hW : W = (n + 63) / 64) (hq : ∀ i, i < n → q i = K i) (hsn : s.sn = n) (C : Nat) (hC : Hid ((kept K n).length = C)) :
    Calls Yba.prog 10 #[.pointer (some ⟨b, 2, none⟩), .func (.func 11) #[] #[.pointer (some ⟨bx, 0, none⟩)]] w fun e w' => e = .returned (.tuple #[]) ∧ ∃ V, FilDone w b bx g gh gk n W { s with evn := C } p q K A P C V w' := by
  have HC := toHid (filter_any w b bx g gh gk n W s p q K A P E0 hr ap hdv hhv hkv hn hW hq hsn C hC)
  clear hr hdv hhv hkv hW hq hsn hC
  go_enter Yba.func10, Yba.ntmps10
  go_wp2_with fail
  refine HC.out.mono ?_
  rintro e w1 ⟨rfl, V, D⟩
  have c198 := D.rs.cell (i := 198) (by omega)
  have f198 := D.rs.frozen 198
  have r2 := D.rs.set 198 (.int .i64 (C : Int))
  rw [simF_evn] at r2
  have cb : ∀ k, k < 63 → (w1.setCell ⟨b, 198, none⟩ (.int .i64 (C : Int))).cell? ⟨b, 5 + k * 3, none⟩ = some (.int .i64 0) := fun k hk => by
    rw [r2.cell (by omega), simF_bucket _ k hk]
  have c3 : (w1.setCell ⟨b, 198, none⟩ (.int .i64 (C : Int))).cell? ⟨b, 3, none⟩ = some (.bool false) := by rw [r2.cell (by omega), simF_3]
  have HD : Hid (∃ V, FilDone w b bx g gh gk n W { s with evn := C } p q K A P C V (w1.setCell ⟨b, 198, none⟩ (.int .i64 (C : Int)))) := by
    have hs : Kept (fun k => k = b) w1 (w1.setCell ⟨b, 198, none⟩ (.int .i64 (C : Int))) := (Kept.refl (fun k => k = b) w1).setCell (p := ⟨b, 198, none⟩) rfl _
    exact ⟨V, D.due.kept hs (fun e => ap.h1 e.symm), D.len, D.perm, D.heap, r2, hs.row D.rh (fun e => ap.h2 e.symm), hs.row D.rk (fun e => ap.h3 e.symm), hs.row D.rx ap.h7, D.kp.trans (hs.mono (fun k _ e => by unfold own4; omega))⟩
  clear D r2 HC
  go_wp2_with fail
  clear c198 f198
  generalize w1.setCell ⟨b, 198, none⟩ (.int .i64 (C : Int)) = w2 at *
  go_loop [21] (fun k => ∃ k' : Nat, k = .int .i64 k' ∧ k' ≤ 63) (fun k => 64 - (intOf k).toNat)
  case atStart => exact ⟨0, rfl, by omega⟩
  case round =>
    obtain ⟨k, rfl, hk⟩ := hrel
    by_cases hlt : k < 63
    · have ck := cb k hlt
      clear cb
      go_wp2_with fail
      go_round
      case rel => exact ⟨k + 1, by go_num, by omega⟩
      case measure => simp [intOf]; omega
    · go_wp2_with fail
      go_end0
      exact ⟨rfl, HD.out⟩

/-- Behind compact. -/
structure CompDone (w : World) (b g gh gk n W : Nat) (s : SimC) (p q K : Nat → Bool) (A P : Nat → Int) (c : Nat) (V : List Nat) (w' : World) : Prop where
  due : Due w' g n A P V
  len : V.length = c
  perm : List.Perm V (kept K n)
  heap : heapFrom A P 0 V
  rs : w'.rowIs b 43 211 (simF { s with dv := .slice (some ⟨g, 0, none⟩) c n, evn := c, sn := s.sn - ((n : Int) - (c : Int)), dead := 0 })
  rh : w'.rowIs gh 25 W (wf (off p K n))
  rk : w'.rowIs gk 25 W (wf (off q K n))
  kp : Kept (own4 b g gh gk) w w'

theorem range_getD (n j : Nat) (h : j < n) : (List.range n).getD j 0 = j := by simp [List.getD, h]

set_option maxHeartbeats 800000 in
theorem compact_any (w : World) (b g gh gk n W : Nat) (s : SimC) (p q K : Nat → Bool) (A P : Nat → Int) (hd : Due w g n A P (List.range n)) (rs : w.rowIs b 43 211 (simF s)) (rh : w.rowIs gh 25 W (wf p)) (rk : w.rowIs gk 25 W (wf q))
    (h1 : b ≠ g) (h2 : b ≠ gh) (h3 : b ≠ gk) (h4 : g ≠ gh) (h5 : g ≠ gk) (h6 : gh ≠ gk)
    (hdv : s.dv = .slice (some ⟨g, 0, none⟩) n n) (hhv : s.hv = .slice (some ⟨gh, 0, none⟩) W W) (hkv : s.kv = .slice (some ⟨gk, 0, none⟩) W W) (hn : n ≤ 1024) (hW : W = (n + 63) / 64) (hq : ∀ i, i < n → q i = K i) (hsn : s.sn = n) (C : Nat) (hC : Hid ((kept K n).length = C)) :
    Calls Yba.prog 6 #[.pointer (some ⟨b, 0, none⟩)] w fun e w' => e = .returned (.tuple #[]) ∧ ∃ V, CompDone w b g gh gk n W s p q K A P C V w' := by
  have hb := rs.lt
  have hg := hd.lt
  have hgh := rh.lt
  have hgk := rk.lt
  have ap : Apart b w.heap.size g gh gk := ⟨h1, h2, h3, h4, h5, h6, by omega, by omega, by omega, by omega⟩
  have rx : (w.alloc (.cells #[.pointer (some ⟨b, 0, none⟩)] 23)).rowIs w.heap.size 23 1 (fun _ => .pointer (some ⟨b, 0, none⟩)) := World.rowIs_alloc w #[.pointer (some ⟨b, 0, none⟩)] 23 _ (fun i hi => by simp at hi; subst hi; rfl)
  have F : FilRel (w.alloc (.cells #[.pointer (some ⟨b, 0, none⟩)] 23)) b w.heap.size g gh gk n W s p q K A P 0 0 (List.range n) (w.alloc (.cells #[.pointer (some ⟨b, 0, none⟩)] 23)) := by
    refine ⟨hd.alloc _, by simp, by simp [kept], by simp [kept], fun j _ hj => range_getD n j hj, ?_, by rw [off_zero]; exact rh.alloc _, by rw [off_zero]; exact rk.alloc _, rx, Kept.refl _ _⟩
    have : s.sn - (((0 : Nat) : Int) - ((0 : Nat) : Int)) = s.sn := by omega
    rw [this]; exact rs.alloc _
  have HC := toHid (qfilter_any _ b w.heap.size g gh gk n W s p q K A P _ F ap hdv hhv hkv hn hW hq hsn C hC)
  clear F rx hd rs rh rk hdv hhv hkv hW hq hsn hC
  go_enter Yba.func6, Yba.ntmps6
  go_wp2_with fail
  refine HC.out.mono ?_
  rintro e w1 ⟨rfl, V, D⟩
  have cx := D.rx.cell (i := 0) (by omega)
  have c204 := D.rs.cell (i := 204) (by omega)
  have f204 := D.rs.frozen 204
  have r2 := D.rs.set 204 (.int .i64 0)
  rw [simF_dead] at r2
  have HD : Hid (∃ V, CompDone w b g gh gk n W s p q K A P C V (w1.setCell ⟨b, 204, none⟩ (.int .i64 0))) := by
    have hs : Kept (fun k => k = b) w1 (w1.setCell ⟨b, 204, none⟩ (.int .i64 0)) := (Kept.refl (fun k => k = b) w1).setCell (p := ⟨b, 204, none⟩) rfl _
    exact ⟨V, D.due.kept hs (fun e => h1 e.symm), D.len, D.perm, D.heap, r2, hs.row D.rh (fun e => h2 e.symm), hs.row D.rk (fun e => h3 e.symm), (((Kept.refl _ w).alloc _).trans D.kp).trans (hs.mono (fun k _ e => by unfold own4; omega))⟩
  clear D r2 HC
  go_wp2_with fail
  go_end0
  exact ⟨rfl, HD.out⟩
end Go.Proofs.Ybulkzim.Comp
