import Derived.Test.YbulkzmgFmtAdd2
namespace Go.Proofs.YbulkzmgFmt.Sc
open Go.RowKit Go.Extern.Stop Go.Stop Go.Extern
open Go.ChangeMaps (setBlock heap_setBlock_other heap_setBlock_same)
set_option linter.unusedVariables false

/-- m[key] = v at a key that is not there, whatever was drawn. -/
theorem MapE.put_draw {k t e : TypeId} {good : Value → Prop} (K : KeyOK k good) (ht : Ybaf.prog.underlying t = some (.map k e)) {w : World} {b : Nat} {L : List (Value × Value)} (h : MapE w b L) (hg : ∀ p ∈ L, good p.1) {key : Value} (hk : good key) (hn : ∀ p ∈ L, p.1 ≠ key) (v : Value) :
    ∃ w', (∀ m, (Instr.mapUpdate t (.map (some b)) key v).run Ybaf.prog (w.drewN m) = .ok () (w'.drewN m)) ∧ MapE w' b (L ++ [(key, v)]) ∧ KC (fun k _ => k = b) w w' ∧ w'.heap.size = w.heap.size := by
  obtain ⟨es, cl, hb, rfl⟩ := h
  have hes : ∀ x ∈ es.toList, good x.key := fun x hx => hg (x.key, x.val) (List.mem_map.2 ⟨x, hx, rfl⟩)
  refine ⟨setBlock w b (.map (es.push ⟨key, v, cl⟩) (cl + 1)), fun m => ?_, ⟨_, _, heap_setBlock_same hb _, by simp⟩, kc_setBlock hb (fun _ => rfl), by simp [setBlock]⟩
  have hb' : (w.drewN m).heap[b]? = some (.map es cl) := hb
  rcases K.find (w.drewN m) hk es.toList hes with ⟨h1, h2⟩ | ⟨j, e0, h1, h2, h3⟩
  · simp [Instr.mapUpdate, run_underlying ht, MapKept.run_getObj_map hb', K.check (w.drewN m) false hk, h1, MapKept.run_setObj_map _ hb', Result.andThen, setBlock]
    rfl
  · exact absurd h3 (hn (e0.key, e0.val) (List.mem_map.2 ⟨e0, List.mem_of_getElem? h2, rfl⟩))

/-- What a successful add leaves. -/
structure Added (sb so n : Nat) (f : Nat → Addr) (p : Addr) (b o cap : Nat) (w w' : World) (b' o' cap' : Nat) (mv : Value) (own : Nat → Nat → Prop) : Prop where
  kc : KC (fun x y => (x = sb ∧ (y = so ∨ y = so + 1)) ∨ (x = b' ∧ y = o' + n) ∨ own x y) w w'
  c0 : w'.cell? ⟨sb, so, none⟩ = some (.slice (some ⟨b', o', none⟩) (n + 1) cap')
  c1 : w'.cell? ⟨sb, so + 1, none⟩ = some mv
  lv : LV w' (n + 1) (ext f n p) b' o' cap'
  wher : (b' = b ∧ o' = o ∧ n < cap) ∨ (w.heap.size ≤ b' ∧ b' < w'.heap.size ∧ o' = 0)

set_option maxRecDepth 20000 in
set_option maxHeartbeats 1600000 in
theorem add29_few (sb so t N cb : Nat) (n b o cap : Nat) (f : Nat → Addr) (l : Nat → ByteArray) (p : Addr) (k : ByteArray) (w : World) (h0 : w.cell? ⟨sb, so, none⟩ = some (.slice (some ⟨b, o, none⟩) n cap)) (h1 : w.cell? ⟨sb, so + 1, none⟩ = some (.map none)) (hsb : Sh w sb t N) (hL : HasL w p k)
    (hv : LV w n f b o cap) (hl : ∀ j, j < n → HasL w (f j) (l j)) (hn0 : 0 < n) (hn : n ≤ 7) (hd : ∀ j, j < n → l j ≠ k) (hbs : b ≠ sb) :
    Calls Ybaf.prog 29 #[.pointer (some ⟨sb, so, none⟩), .pointer (some p), .pointer (some ⟨cb, 10, none⟩)] w fun e w' => ∃ b' o' cap', e = .returned (.bool true) ∧ Added sb so n f p b o cap w w' b' o' cap' (.map none) nob := by
  have HA := toHid hL.call
  have HC := toHid (fun (w1 : World) (k1 : KC nob w w1) => contains36 (some ⟨b, o, none⟩) cap n w1.heap.size f l k (w1.alloc (.cells #[.string k] 9)) (hv.kc (k1.alloc _) (fun _ _ => id)).ptrs (fun j hj => (hl j hj).kc (k1.alloc _) (fun _ => id)) (cell_of_row _ _ _ _ _ _ (heap_alloc_new _ _)) (by omega))
  have HP := toHid (fun (w2 : World) (k2 : KC nob w w2) => append_list p (hv.kc k2 (fun _ _ => id)) hn0 (by omega) 45)
  have q1 := eql45_some
  have q3 := neq33_nil
  have q4 := eql33_nil
  have hc0 := toHid h0
  have hc1 := toHid h1
  clear h0 h1
  replace hL := toHid hL
  replace hl := toHid hl
  replace hv := toHid hv
  replace hd := toHid hd
  replace hsb := toHid hsb
  go_enter Ybaf.func29, Ybaf.ntmps29
  go_wp2_with first
    | (go_at_call 35; refine HA.out.mono ?_; rintro e w1 ⟨rfl, hd1⟩; have k1 : KC nob w w1 := (by obtain ⟨n, rfl⟩ := hd1; exact (KC.refl _ _).drewN n); clear hd1; have a0 := k1.cell _ _ _ id hc0.out; have a1 := k1.cell _ _ _ id hc1.out; have lt1 := (k1.shape _ _ _ hsb.out).lt)
    | (go_at_call 36; refine (HC.out w1 k1).mono ?_; rintro e w2 ⟨r, mm2, rfl, hd2, hr⟩; have hrf : r = false := (by cases r; rfl; exfalso; obtain ⟨j, hj, hjk⟩ := hr.1 rfl; exact hd.out j hj hjk); subst hrf; clear hr; have k2 : KC nob w w2 := (by rw [hd2]; exact (k1.alloc _).drewN _); clear hd2; have b0 := k2.cell _ _ _ id hc0.out; have b1 := k2.cell _ _ _ id hc1.out; have lt2 := (k2.shape _ _ _ hsb.out).lt; obtain ⟨w3, b', o', cap', hrun, lv3, k3, hor⟩ := HP.out w2 k2;
        have hbs' : b' ≠ sb := (by rcases hor with ⟨h, _⟩ | ⟨h, _⟩ <;> omega); have c0 := k3.cell sb so _ (fun e => hbs' e.1.symm) b0; have c1 := k3.cell sb (so + 1) _ (fun e => hbs' e.1.symm) b1; have y0 := (k3.shape _ _ _ (k2.shape _ _ _ hsb.out)).frozen so; have lt3 := (k3.shape _ _ _ (k2.shape _ _ _ hsb.out)).lt; replace hrun := toHid hrun; replace lv3 := toHid lv3; replace k3 := toHid k3; replace hor := toHid hor)
    | (at_builtin; refine wpList_append5 45 45 45 rfl _ _ rfl rfl (u := .slice (some ⟨b, o, none⟩) n cap) (v := .slice (some ⟨w2.heap.size, 0, none⟩) 1 1) rfl rfl hrun.out ?_)
  go_ret
  refine ⟨b', o', cap', rfl, ⟨?_, World.cell?_setCell_same _ _ _ c0, (World.cell?_setCell_other _ _ _ _ (fun e => by cases e)).trans c1, lv3.out.kc (KC.set1 (own := fun x y => x = sb ∧ y = so) _ _ _ _ ⟨rfl, rfl⟩) (fun j _ e => hbs' e.1), ?_⟩⟩
  · exact (k2.any.trans (k3.out.mono fun x y _ h => .inr (.inl h))).set (.inl ⟨rfl, .inl rfl⟩) _
  · have h2 := k2.size
    rcases hor.out with ⟨h, h', hc⟩ | ⟨h, h', h'', _⟩
    · exact .inl ⟨h, h', hc⟩
    · exact .inr ⟨by omega, by simpa using h', h''⟩

theorem AL_snoc (l : Nat → ByteArray) (n : Nat) (k : ByteArray) : AL l n ++ [(.string k, .bool true)] = AL (fun j => if j = n then k else l j) (n + 1) := by
  unfold AL
  rw [List.range_succ, List.map_append]
  congr 1
  · apply List.map_congr_left
    intro j hj
    have : j < n := by simpa using hj
    simp only [if_neg (Nat.ne_of_lt this)]
  · simp

set_option maxRecDepth 20000 in
set_option maxHeartbeats 1600000 in
theorem add29_many (sb so t N cb mb : Nat) (n b o cap : Nat) (f : Nat → Addr) (l : Nat → ByteArray) (p : Addr) (k : ByteArray) (w : World) (h0 : w.cell? ⟨sb, so, none⟩ = some (.slice (some ⟨b, o, none⟩) n cap)) (h1 : w.cell? ⟨sb, so + 1, none⟩ = some (.map (some mb))) (hsb : Sh w sb t N) (hL : HasL w p k)
    (hv : LV w n f b o cap) (hm : MapE w mb (AL l n)) (hl : ∀ j, j < n → HasL w (f j) (l j)) (hn0 : 0 < n) (hn : n ≤ 255) (hd : ∀ j, j < n → l j ≠ k) (hbs : b ≠ sb) (hms : mb ≠ sb) (hmb : mb ≠ b) :
    Calls Ybaf.prog 29 #[.pointer (some ⟨sb, so, none⟩), .pointer (some p), .pointer (some ⟨cb, 10, none⟩)] w fun e w' => ∃ b' o' cap', e = .returned (.bool true) ∧ Added sb so n f p b o cap w w' b' o' cap' (.map (some mb)) (fun x _ => x = mb) ∧ MapE w' mb (AL (fun j => if j = n then k else l j) (n + 1)) := by
  have HA := toHid hL.call
  have HM := toHid (fun (W : World) (kW : KC nob w W) => AL_none hl hL (hm.kc kW (fun _ => id)) hd)
  have HU := toHid (fun (W : World) (kW : KC nob w W) => MapE.put_draw strOK Ybaf.underlying33 (hm.kc kW (fun _ => id)) (AL_good hl) (key := .string k) ⟨_, rfl, hL.size⟩ (AL_no hd) (.bool true))
  have HP := toHid (fun (w2 : World) (k2 : KC (fun x _ => x = mb) w w2) => append_list p (hv.kc k2 (fun _ _ e => hmb e.symm)) hn0 (by omega) 45)
  have q1 := eql45_some
  have q3 := neq33_some
  have q4 := eql33_some
  have hc0 := toHid h0
  have hc1 := toHid h1
  clear h0 h1
  replace hL := toHid hL
  replace hl := toHid hl
  replace hv := toHid hv
  replace hm := toHid hm
  replace hd := toHid hd
  replace hsb := toHid hsb
  go_enter Ybaf.func29, Ybaf.ntmps29
  go_wp2_with (go_at_call 35; refine HA.out.mono ?_; rintro e w1 ⟨rfl, hd1⟩; have k1 : KC nob w w1 := (by obtain ⟨n, rfl⟩ := hd1; exact (KC.refl _ _).drewN n); clear hd1; have a0 := k1.cell _ _ _ id hc0.out; have a1 := k1.cell _ _ _ id hc1.out; have lt1 := (k1.shape _ _ _ hsb.out).lt; have hlk := fun m => HM.out ((w1.alloc (.cells #[.string k] 9)).drewN m) ((k1.alloc _).drewN m))
  go_quiet (fail)
  clear hlk
  have k2 : KC nob w ((w1.alloc (.cells #[.string k] 9)).drewN nq) := (k1.alloc _).drewN nq
  have hB : ((w1.alloc (.cells #[.string k] 9)).drewN nq).cell? ⟨w1.heap.size, 0, none⟩ = some (.string k) := cell_of_row _ _ _ _ _ _ (heap_alloc_new w1 _)
  generalize (w1.alloc (.cells #[.string k] 9)).drewN nq = W2 at k2 hB ⊢
  clear a0 a1 lt1
  have a0 := k2.cell _ _ _ id hc0.out
  have a1 := k2.cell _ _ _ id hc1.out
  have lt2 := (k2.shape _ _ _ hsb.out).lt
  obtain ⟨wu, hu, hmu, ku, hzu⟩ := HU.out W2 k2
  have hu1 : (Instr.mapUpdate 33 (.map (some mb)) (.string k) (.bool true)).run Ybaf.prog W2.drew = .ok () wu.drew := hu 1
  clear hu
  go_wp2
  go_region
  have kd : KC (fun x _ => x = mb) w wu.drew := (k2.any.trans ku).drew
  have hmd : MapE wu.drew mb (AL l n ++ [(.string k, .bool true)]) := hmu
  clear hu1 hmu ku hzu a0 a1 hB lt2
  generalize wu.drew = W3 at kd hmd ⊢
  have b0 := kd.cell _ _ _ (fun e => hms e.symm) hc0.out
  have b1 := kd.cell _ _ _ (fun e => hms e.symm) hc1.out
  have lt2 := (kd.shape _ _ _ hsb.out).lt
  obtain ⟨w3, b', o', cap', hrun, lv3, k3, hor⟩ := HP.out W3 kd
  have hbs' : b' ≠ sb := by rcases hor with ⟨h, _⟩ | ⟨h, _⟩ <;> omega
  have hmb' : mb ≠ b' := by have := hmd.lt; rcases hor with ⟨h, _⟩ | ⟨h, _⟩ <;> omega
  have c0 := k3.cell sb so _ (fun e => hbs' e.1.symm) b0
  have c1 := k3.cell sb (so + 1) _ (fun e => hbs' e.1.symm) b1
  have y0 := (k3.shape _ _ _ (kd.shape _ _ _ hsb.out)).frozen so
  have lt3 := (k3.shape _ _ _ (kd.shape _ _ _ hsb.out)).lt
  have hm3 := hmd.kc k3 (fun o e => hmb' e.1)
  replace hrun := toHid hrun
  replace lv3 := toHid lv3
  replace k3 := toHid k3
  replace hor := toHid hor
  replace hmd := toHid hmd
  replace hm3 := toHid hm3
  go_wp2_with (at_builtin; refine wpList_append5 45 45 45 rfl _ _ rfl rfl (u := .slice (some ⟨b, o, none⟩) n cap) (v := .slice (some ⟨W3.heap.size, 0, none⟩) 1 1) rfl rfl hrun.out ?_)
  go_ret
  refine ⟨b', o', cap', rfl, ⟨?_, World.cell?_setCell_same _ _ _ c0, (World.cell?_setCell_other _ _ _ _ (fun e => by cases e)).trans c1, lv3.out.kc (KC.set1 (own := fun x y => x = sb ∧ y = so) _ _ _ _ ⟨rfl, rfl⟩) (fun j _ e => hbs' e.1), ?_⟩, ?_⟩
  · exact ((kd.mono fun x y _ h => .inr (.inr h)).trans (k3.out.mono fun x y _ h => .inr (.inl h))).set (.inl ⟨rfl, .inl rfl⟩) _
  · have h2 := kd.size
    rcases hor.out with ⟨h, h', hc⟩ | ⟨h, h', h'', _⟩
    · exact .inl ⟨h, h', hc⟩
    · exact .inr ⟨by omega, by simpa using h', h''⟩
  · rw [← AL_snoc]
    exact hm3.out.kc (KC.set1 (own := fun x y => x = sb ∧ y = so) _ _ _ _ ⟨rfl, rfl⟩) (fun o e => hms e.1)
end Go.Proofs.YbulkzmgFmt.Sc
