import Derived.Test.YbulkzmgFmtAdd3
import Derived.Deep.RegionWith
namespace Go.Proofs.YbulkzmgFmt.Sc
open Go.RowKit Go.Extern.Stop Go.Stop Go.Extern
set_option linter.unusedVariables false

theorem KC.transNew {own own2 : Nat → Nat → Prop} {a b c : World} (h : KC own a b) (k : KC own2 b c) (hn : ∀ x y, own2 x y → own x y ∨ a.heap.size ≤ x) : KC own a c :=
  ⟨k.os.trans h.os, k.tape.trans h.tape, k.output.trans h.output, Nat.le_trans h.size k.size,
    fun i hi ho => (k.block i (Nat.lt_of_lt_of_le hi h.size) (fun o e => by rcases hn i o e with e | e; exact ho o e; omega)).trans (h.block i hi ho),
    fun i o v ho hc => k.cell i o v (fun e => by rcases hn i o e with e | e; exact ho e; have := block_lt_of_cell hc; simp only at this; omega) (h.cell i o v ho hc), fun i t n hs => k.shape i t n (h.shape i t n hs)⟩

theorem mkmap33 (n : Nat) (hn : n ≤ 256) (w : World) : (Instr.makeMap 33 (some (.int .i64 n))).run Ybaf.prog w = .ok (.map (some w.heap.size)) (w.alloc (.map #[] 0)) := by
  simp [Instr.makeMap, run_underlying Ybaf.underlying33, asInt, asIntOf]

set_option maxRecDepth 20000 in
set_option maxHeartbeats 3200000 in
theorem add29_nine (sb so t N cb : Nat) (b o cap : Nat) (f : Nat → Addr) (l : Nat → ByteArray) (p : Addr) (k : ByteArray) (w : World) (h0 : w.cell? ⟨sb, so, none⟩ = some (.slice (some ⟨b, o, none⟩) 8 cap)) (h1 : w.cell? ⟨sb, so + 1, none⟩ = some (.map none)) (hsb : Sh w sb t N) (hL : HasL w p k)
    (hv : LV w 8 f b o cap) (hl : ∀ j, j < 8 → HasL w (f j) (l j)) (hd : ∀ j, j < 8 → l j ≠ k) (hinj : ∀ i j, i < 8 → j < 8 → l i = l j → i = j) (hbs : b ≠ sb) (hp : p.block ≠ sb ∧ p.block ≠ b) (hf : ∀ j, j < 8 → (f j).block ≠ sb ∧ (f j).block ≠ b) :
    Calls Ybaf.prog 29 #[.pointer (some ⟨sb, so, none⟩), .pointer (some p), .pointer (some ⟨cb, 10, none⟩)] w fun e w' => ∃ b' o' cap' mb, e = .returned (.bool true) ∧ Added sb so 8 f p b o cap w w' b' o' cap' (.map (some mb)) nob ∧ MapE w' mb (AL (fun j => if j = 8 then k else l j) 9) ∧ w.heap.size ≤ mb := by
  have HA := toHid hL.call
  have HC := toHid (fun (w1 : World) (k1 : KC nob w w1) => contains36 (some ⟨b, o, none⟩) cap 8 w1.heap.size f l k (w1.alloc (.cells #[.string k] 9)) (hv.kc (k1.alloc _) (fun _ _ => id)).ptrs (fun j hj => (hl j hj).kc (k1.alloc _) (fun _ => id)) (cell_of_row _ _ _ _ _ _ (heap_alloc_new _ _)) (by omega))
  have HP := toHid (fun (w2 : World) (k2 : KC nob w w2) => append_list p (hv.kc k2 (fun _ _ => id)) (by omega) (by omega) 45)
  have q1 := eql45_some
  have q3 := neq33_nil
  have q4 := eql33_nil
  have hmk : ∀ w : World, (Instr.makeMap 33 (some (.int .i64 9))).run Ybaf.prog w = .ok (.map (some w.heap.size)) (w.alloc (.map #[] 0)) := fun w => mkmap33 9 (by omega) w
  have hc0 := toHid h0
  have hc1 := toHid h1
  clear h0 h1
  replace hL := toHid hL
  replace hl := toHid hl
  replace hv := toHid hv
  replace hd := toHid hd
  replace hinj := toHid hinj
  replace hsb := toHid hsb
  replace hp := toHid hp
  replace hf := toHid hf
  go_enter Ybaf.func29, Ybaf.ntmps29
  go_wp2_with first
    | (go_at_call 35; refine HA.out.mono ?_; rintro e w1 ⟨rfl, hd1⟩; have k1 : KC nob w w1 := (by obtain ⟨n, rfl⟩ := hd1; exact (KC.refl _ _).drewN n); clear hd1; have a0 := k1.cell _ _ _ id hc0.out; have a1 := k1.cell _ _ _ id hc1.out; have lt1 := (k1.shape _ _ _ hsb.out).lt)
    | (go_at_call 36; refine (HC.out w1 k1).mono ?_; rintro e w2 ⟨r, mm2, rfl, hd2, hr⟩; have hrf : r = false := (by cases r; rfl; exfalso; obtain ⟨j, hj, hjk⟩ := hr.1 rfl; exact hd.out j hj hjk); subst hrf; clear hr; have k2 : KC nob w w2 := (by rw [hd2]; exact (k1.alloc _).drewN _); clear hd2; have b0 := k2.cell _ _ _ id hc0.out; have b1 := k2.cell _ _ _ id hc1.out; have lt2 := (k2.shape _ _ _ hsb.out).lt; obtain ⟨w3, b', o', cap', hrun, lv3, k3, hor⟩ := HP.out w2 k2;
        have hbs' : b' ≠ sb := (by rcases hor with ⟨h, _⟩ | ⟨h, _⟩ <;> omega); have c0 := k3.cell sb so _ (fun e => hbs' e.1.symm) b0; have c1 := k3.cell sb (so + 1) _ (fun e => hbs' e.1.symm) b1; have y0 := (k3.shape _ _ _ (k2.shape _ _ _ hsb.out)).frozen so; have y1 := (k3.shape _ _ _ (k2.shape _ _ _ hsb.out)).frozen (so + 1); have lt3 := (k3.shape _ _ _ (k2.shape _ _ _ hsb.out)).lt; replace hrun := toHid hrun; replace lv3 := toHid lv3; replace k3 := toHid k3; replace hor := toHid hor)
    | (at_builtin; refine wpList_append5 45 45 45 rfl _ _ rfl rfl (u := .slice (some ⟨b, o, none⟩) 8 cap) (v := .slice (some ⟨w2.heap.size, 0, none⟩) 1 1) rfl rfl hrun.out ?_)
  have h2z := k2.size
  have h3z := k3.out.size
  have k4 : KC (fun x y => (x = sb ∧ (y = so ∨ y = so + 1)) ∨ (x = b' ∧ y = o' + 8)) w (((w3.setCell ⟨sb, so, none⟩ (.slice (some ⟨b', o', none⟩) 9 cap')).setCell ⟨sb, so + 1, none⟩ (.map (some w3.heap.size))).alloc (.map #[] 0)) :=
    (((k2.any.trans (k3.out.mono fun x y _ h => .inr h)).set (.inl ⟨rfl, .inl rfl⟩) _).set (.inl ⟨rfl, .inr rfl⟩) _).alloc _
  have d0 : (((w3.setCell ⟨sb, so, none⟩ (.slice (some ⟨b', o', none⟩) 9 cap')).setCell ⟨sb, so + 1, none⟩ (.map (some w3.heap.size))).alloc (.map #[] 0)).cell? ⟨sb, so, none⟩ = some (.slice (some ⟨b', o', none⟩) 9 cap') :=
    (World.cell?_alloc_lt _ _ _ (by simpa using lt3)).trans ((World.cell?_setCell_other _ _ _ _ (fun e => by cases e)).trans (World.cell?_setCell_same _ _ _ c0))
  have d1 : (((w3.setCell ⟨sb, so, none⟩ (.slice (some ⟨b', o', none⟩) 9 cap')).setCell ⟨sb, so + 1, none⟩ (.map (some w3.heap.size))).alloc (.map #[] 0)).cell? ⟨sb, so + 1, none⟩ = some (.map (some w3.heap.size)) :=
    (World.cell?_alloc_lt _ _ _ (by simpa using lt3)).trans (World.cell?_setCell_same _ _ _ ((World.cell?_setCell_other _ _ _ _ (fun e => by cases e)).trans c1))
  have hm4 : MapE (((w3.setCell ⟨sb, so, none⟩ (.slice (some ⟨b', o', none⟩) 9 cap')).setCell ⟨sb, so + 1, none⟩ (.map (some w3.heap.size))).alloc (.map #[] 0)) w3.heap.size [] := by
    have := MapE.made ((w3.setCell ⟨sb, so, none⟩ (.slice (some ⟨b', o', none⟩) 9 cap')).setCell ⟨sb, so + 1, none⟩ (.map (some w3.heap.size)))
    simpa using this
  have lv4 := lv3.out.kc (((KC.refl (fun x _ => x = sb) w3).set (b := sb) (o := so) rfl (.slice (some ⟨b', o', none⟩) 9 cap')).set (b := sb) (o := so + 1) rfl (.map (some w3.heap.size)) |>.alloc (.map #[] 0)) (fun j _ e => hbs' e)
  have hbl : b' < w3.heap.size := by
    have := block_lt_of_cell (lv3.out.cell 0 (by omega)); simpa using this
  generalize (((w3.setCell ⟨sb, so, none⟩ (.slice (some ⟨b', o', none⟩) 9 cap')).setCell ⟨sb, so + 1, none⟩ (.map (some w3.heap.size))).alloc (.map #[] 0)) = W4 at k4 d0 d1 hm4 lv4 ⊢
  have hwh : (b' = b ∧ o' = o ∧ 8 < cap) ∨ (w.heap.size ≤ b' ∧ b' < W4.heap.size ∧ o' = 0) := by
    have := block_lt_of_cell (lv4.cell 0 (by omega))
    simp only at this
    rcases hor.out with ⟨h, h', hc⟩ | ⟨h, h', h'', _⟩
    · exact .inl ⟨h, h', hc⟩
    · exact .inr ⟨by omega, this, h''⟩
  have hbb : ∀ x, x < w.heap.size → x ≠ b → x ≠ b' := fun x hx hxb => by rcases hwh with ⟨h, _⟩ | ⟨h, _⟩ <;> omega
  generalize w3.heap.size = mb at d1 hm4 hbl lt3 h3z ⊢
  have hl4 : ∀ j, j < 9 → HasL W4 (ext f 8 p j) (if j = 8 then k else l j) := fun j hj => by
    unfold ext
    by_cases h8 : j = 8
    · rw [if_pos h8, if_pos h8]
      have hpb : p.block < w.heap.size := by obtain ⟨x, y, _, _, rfl, hx, _⟩ := hL.out; exact block_lt_of_cell hx
      exact hL.out.kc k4 (fun y e => by rcases e with ⟨e, _⟩ | ⟨e, _⟩; exact hp.out.1 e; exact hbb _ hpb hp.out.2 e)
    · rw [if_neg h8, if_neg h8]
      have hfj := hf.out j (by omega)
      have hpb : (f j).block < w.heap.size := by
        have := hl.out j (by omega)
        obtain ⟨x, y, _, _, he, hx, _⟩ := this
        rw [he]
        exact block_lt_of_cell hx
      exact (hl.out j (by omega)).kc k4 (fun y e => by rcases e with ⟨e, _⟩ | ⟨e, _⟩; exact hfj.1 e; exact hbb _ hpb hfj.2 e)
  have hl4m : ∀ j, j < 9 → (ext f 8 p j).block ≠ mb := fun j hj => by
    have : ∀ a l, HasL w a l → a.block ≠ mb := fun a l h => by
      obtain ⟨x, y, _, _, rfl, hx, _⟩ := h
      have := block_lt_of_cell hx
      simp only at this ⊢
      omega
    unfold ext
    by_cases h8 : j = 8
    · rw [if_pos h8]; exact this _ _ hL.out
    · rw [if_neg h8]; exact this _ _ (hl.out j (by omega))
  have hin : ∀ i j, i < 9 → j < 9 → (if i = 8 then k else l i) = (if j = 8 then k else l j) → i = j := fun i j hi hj e => by
    by_cases h8 : i = 8 <;> by_cases h8' : j = 8
    · omega
    · rw [if_pos h8, if_neg h8'] at e; exact absurd e.symm (hd.out j (by omega))
    · rw [if_neg h8, if_pos h8'] at e; exact absurd e (hd.out i (by omega))
    · rw [if_neg h8, if_neg h8'] at e; exact hinj.out i j (by omega) (by omega) e
  clear b0 b1 c0 c1 y0 y1 a0 a1 lt1 lt2 hmk
  replace hl4 := toHid hl4
  replace hl4m := toHid hl4m
  replace hin := toHid hin
  replace hbb := toHid hbb
  replace lv4 := toHid lv4
  replace hm4 := toHid hm4
  replace d0 := toHid d0
  replace d1 := toHid d1
  replace k4 := toHid k4
  have hmsb : mb ≠ sb := by omega
  have hmbb : mb ≠ b' := by omega
  generalize hf' : ext f 8 p = f' at hl4 hl4m lv4
  generalize hl' : (fun j => if j = 8 then k else l j) = l'
  replace hl4 : Hid (∀ j, j < 9 → HasL W4 (f' j) (l' j)) := by rw [← hl']; exact hl4
  replace hin : Hid (∀ i j, i < 9 → j < 9 → l' i = l' j → i = j) := by rw [← hl']; exact hin
  go_loopw [87] (fun v wr => ∃ i : Nat, v = .int .i64 i ∧ i ≤ 9 ∧ KC (fun x _ => x = mb) W4 wr ∧ MapE wr mb (AL l' i)) (fun v _ => 9 - (intOf v).toNat)
  case atStart => exact ⟨0, rfl, by omega, KC.refl _ _, hm4.out⟩
  case round =>
    obtain ⟨i, rfl, hi, kr, hmr⟩ := hrel
    by_cases hlt : i < 9
    · have ci := kr.cell _ _ _ (fun e => hmbb e.symm) (lv4.out.cell i hlt)
      have d1r := kr.cell _ _ _ (fun e => hmsb e.symm) d1.out
      have HR := toHid (fun m => (show HasL (wr.drewN m) (f' i) (l' i) from (hl4.out i hlt).kc (kr.drewN m) (fun _ e => hl4m.out i hlt e)).call)
      obtain ⟨wu, hu, hmu, ku, hzu⟩ := MapE.put_draw strOK Ybaf.underlying33 hmr (AL_good (w := W4) (f := f') (fun j hj => hl4.out j (by omega))) (key := .string (l' i)) ⟨_, rfl, (hl4.out i hlt).size⟩ (AL_no (fun j hj e => by have := hin.out j i (by omega) hlt e; omega)) (.bool true)
      replace hmr := toHid hmr
      replace hmu := toHid hmu
      replace ku := toHid ku
      replace kr := toHid kr
      go_wp2
      go_region_with (go_at_call 35; refine (HR.out 1).mono ?_; rintro e w5 ⟨rfl, n5, rfl⟩)
      all_goals (
        go_wp2
        have hmF : MapE wu mb (AL l' (i + 1)) := by
          have := hmu.out
          rw [AL_snoc, show (fun j => if j = i then l' i else l' j) = l' by funext j; by_cases h : j = i <;> simp [h]] at this
          exact this
        go_round
        case rel => exact ⟨i + 1, by simp, by omega, (kr.out.trans ku.out).drewN _, hmF⟩
        case measure => simp [intOf]; omega)
    · have hi9 : i = 9 := by omega
      subst hi9
      have kF : KC (fun x y => (x = sb ∧ (y = so ∨ y = so + 1)) ∨ (x = b' ∧ y = o' + 8) ∨ nob x y) w wr := (k4.out.mono fun x y _ h => by rcases h with h | h; exact .inl h; exact .inr (.inl h)).transNew kr (fun x y e => .inr (by omega))
      have c0 := kr.cell _ _ _ (fun e => hmsb e.symm) d0.out
      have c1 := kr.cell _ _ _ (fun e => hmsb e.symm) d1.out
      have lvF := lv4.out.kc kr (fun j _ e => hmbb e.symm)
      go_wp2
      go_ret
      refine ⟨b', o', cap', mb, rfl, ⟨kF, c0, c1, by rw [hf']; exact lvF, ?_⟩, by rw [hl']; exact hmr, by omega⟩
      have := kr.size
      rcases hwh with h | ⟨h, h', h''⟩
      · exact .inl h
      · exact .inr ⟨h, by omega, h''⟩
end Go.Proofs.YbulkzmgFmt.Sc
