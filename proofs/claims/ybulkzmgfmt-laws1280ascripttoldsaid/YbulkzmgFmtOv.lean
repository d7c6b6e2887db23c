import Derived.Test.YbulkzmgFmtSo
namespace Go.Proofs.YbulkzmgFmt.Sc
open Go.RowKit Go.Extern.Stop Go.Stop Go.Extern
open Go.ChangeMaps (setBlock heap_setBlock_other heap_setBlock_same)
set_option linter.unusedVariables false

theorem sc0 : ((scN 0).toList == [112, 103, 95, 99, 97, 116, 97, 108, 111, 103]) = true := by decide +kernel
theorem sc1 : ((scN 1).toList == [112, 103, 95, 99, 97, 116, 97, 108, 111, 103]) = false := by decide +kernel
theorem sc1' : ((scN 1).toList == [112, 117, 98, 108, 105, 99]) = true := by decide +kernel
theorem sc2 : ((scN 2).toList == [112, 103, 95, 99, 97, 116, 97, 108, 111, 103]) = false := by decide +kernel
theorem sc2' : ((scN 2).toList == [112, 117, 98, 108, 105, 99]) = false := by decide +kernel

set_option maxHeartbeats 800000 in
theorem ov14_builtin (ob oo cb pb po : Nat) (w : World) (post : Ending → World → Prop) (hs0 : w.cell? ⟨pb, po, none⟩ = some (.string (scN 0))) (H : Calls Ybaf.prog 29 #[.pointer (some ⟨ob, oo + 1, none⟩), .pointer (some ⟨pb, po, none⟩), .pointer (some ⟨cb, 10, none⟩)] w fun e w' => ∃ r : Bool, e = .returned (.bool r) ∧ post e w') :
    Calls Ybaf.prog 14 #[.pointer (some ⟨ob, oo, none⟩), .pointer (some ⟨pb, po, none⟩), .pointer (some ⟨cb, 10, none⟩)] w post := by
  replace H := toHid H
  have q := sc0
  generalize scN 0 = s at hs0 q
  go_enter Ybaf.func14, Ybaf.ntmps14
  go_wp2_with (go_at_call 29; refine H.out.mono ?_; rintro e w' ⟨r, rfl, hp⟩; replace hp := toHid hp)
  exact hp.out
set_option maxHeartbeats 800000 in
theorem ov14_public (ob oo cb pb po : Nat) (w : World) (post : Ending → World → Prop) (hs0 : w.cell? ⟨pb, po, none⟩ = some (.string (scN 1))) (H : Calls Ybaf.prog 29 #[.pointer (some ⟨ob, oo + 3, none⟩), .pointer (some ⟨pb, po, none⟩), .pointer (some ⟨cb, 10, none⟩)] w fun e w' => ∃ r : Bool, e = .returned (.bool r) ∧ post e w') :
    Calls Ybaf.prog 14 #[.pointer (some ⟨ob, oo, none⟩), .pointer (some ⟨pb, po, none⟩), .pointer (some ⟨cb, 10, none⟩)] w post := by
  replace H := toHid H
  have q := sc1
  have q' := sc1'
  generalize scN 1 = s at hs0 q q'
  go_enter Ybaf.func14, Ybaf.ntmps14
  go_wp2_with (go_at_call 29; refine H.out.mono ?_; rintro e w' ⟨r, rfl, hp⟩; replace hp := toHid hp)
  exact hp.out

/-- m[key] = v at the one key of the map, whatever was drawn. -/
theorem MapE.put_one {k t e : TypeId} {good : Value → Prop} (K : KeyOK k good) (ht : Ybaf.prog.underlying t = some (.map k e)) {w : World} {b : Nat} {key v0 : Value} (h : MapE w b [(key, v0)]) (hk : good key) (v : Value) :
    ∃ w', (∀ m, (Instr.mapUpdate t (.map (some b)) key v).run Ybaf.prog (w.drewN m) = .ok () (w'.drewN m)) ∧ MapE w' b [(key, v)] ∧ KC (fun k _ => k = b) w w' ∧ w'.heap.size = w.heap.size := by
  obtain ⟨es, cl, hb, hes⟩ := h
  obtain ⟨e0, he0⟩ : ∃ e0, es.toList = [e0] := by
    cases hE : es.toList with
    | nil => rw [hE] at hes; cases hes
    | cons x xs =>
      rw [hE] at hes
      simp only [List.map_cons, List.cons.injEq, List.map_eq_nil_iff] at hes
      exact ⟨x, by rw [hes.2]⟩
  have hk0 : e0.key = key := by rw [he0] at hes; simp at hes; exact hes.1
  have hg0 : es[0]? = some e0 := by rw [← Array.getElem?_toList, he0]; rfl
  refine ⟨setBlock w b (.map (es.modify 0 fun e => { e with key := key, val := v }) cl), fun m => ?_, ⟨_, _, heap_setBlock_same hb _, ?_⟩, kc_setBlock hb (fun _ => rfl), by simp [setBlock]⟩
  · have hb' : (w.drewN m).heap[b]? = some (.map es cl) := hb
    rcases K.find (w.drewN m) hk es.toList (fun x hx => by rw [he0] at hx; simp at hx; rw [hx, hk0]; exact hk) with ⟨h1, h2⟩ | ⟨j, e1, h1, h2, h3⟩
    · exact absurd hk0 (h2 e0 (by rw [he0]; simp))
    · have hj : j = 0 := by
        rw [he0] at h2
        have := (List.getElem?_eq_some_iff.1 h2).1
        simpa using this
      subst hj
      have he : e1 = e0 := by rw [he0] at h2; simpa using h2.symm
      subst he
      have hst := K.stays (w.drewN m) hk
      simp [Instr.mapUpdate, run_underlying ht, MapKept.run_getObj_map hb', K.check (w.drewN m) false hk, h1, hg0, h3, hst, MapKept.run_setObj_map _ hb', Result.andThen, setBlock]
      rfl
  · apply List.ext_getElem?
    intro i
    rw [List.getElem?_map, Array.getElem?_toList, Array.getElem?_modify]
    cases i with
    | zero => simp [hg0]
    | succ i =>
      have : es[i + 1]? = none := by rw [← Array.getElem?_toList, he0]; rfl
      simp [this]

theorem lookNil82 (s : ByteArray) (w : World) : (Instr.lookup 82 (.map none) (.string s) false).run Ybaf.prog w = .ok (.agg #[.slice none 0 0, .map none]) w := by kernel_rfl
theorem eql82_nil (w : World) : (binOp .eql 82 (.map none) (.map none)).run Ybaf.prog w = .ok (.bool true) w := by kernel_rfl
theorem eql82_some (m : Nat) (w : World) : (binOp .eql 82 (.map (some m)) (.map none)).run Ybaf.prog w = .ok (.bool false) w := by kernel_rfl

set_option maxRecDepth 20000 in
set_option maxHeartbeats 1600000 in
/-- .. of the schema s1: there is a map of others. -/
theorem ov14_s1 (ob oo t N cb pb po xm : Nat) (la : Option Addr) (ln lc : Nat) (mx : Option Nat) (w : World) (hs0 : w.cell? ⟨pb, po, none⟩ = some (.string (scN 2))) (hx : w.cell? ⟨ob, oo + 5, none⟩ = some (.map (some xm))) (hob : Sh w ob t N) (hm : MapE w xm [(.string (scN 2), .agg #[.slice la ln lc, .map mx])])
    (post : Ending → World → Prop)
    (H : ∀ w1, KC nob w w1 → w1.heap.size = w.heap.size + 1 → Sh w1 w.heap.size 81 2 → w1.cell? ⟨w.heap.size, 0, none⟩ = some (.slice la ln lc) → w1.cell? ⟨w.heap.size, 0 + 1, none⟩ = some (.map mx) → Calls Ybaf.prog 29 #[.pointer (some ⟨w.heap.size, 0, none⟩), .pointer (some ⟨pb, po, none⟩), .pointer (some ⟨cb, 10, none⟩)] w1 fun e w' =>
      (e = .returned (.bool false) ∧ post (.returned (.bool false)) w') ∨ (e = .returned (.bool true) ∧ ∃ lv' mv', w'.cell? ⟨w.heap.size, 0, none⟩ = some lv' ∧ w'.cell? ⟨w.heap.size, 0 + 1, none⟩ = some mv' ∧ w'.cell? ⟨ob, oo + 5, none⟩ = some (.map (some xm)) ∧ w'.cell? ⟨pb, po, none⟩ = some (.string (scN 2)) ∧ MapE w' xm [(.string (scN 2), .agg #[.slice la ln lc, .map mx])] ∧ (∀ w'', KC (fun x _ => x = xm) w' w'' → MapE w'' xm [(.string (scN 2), .agg #[lv', mv'])] → post (.returned (.bool true)) w''))) :
    Calls Ybaf.prog 14 #[.pointer (some ⟨ob, oo, none⟩), .pointer (some ⟨pb, po, none⟩), .pointer (some ⟨cb, 10, none⟩)] w post := by
  have q := sc2
  have q' := sc2'
  have hk : strKey (.string (scN 2)) := ⟨_, rfl, by decide⟩
  have hlk : ∀ W, KC nob w W → (Instr.lookup 82 (.map (some xm)) (.string (scN 2)) false).run Ybaf.prog W = .ok (.agg #[.slice la ln lc, .map mx]) W := fun W kW => by
    have := (hm.kc kW (fun _ => id)).look_some strOK Ybaf.underlying82 (fun p hp => by simp at hp; rw [hp]; exact hk) (v := .agg #[.slice la ln lc, .map mx]) hk (by simp) (fun v' hv => by simpa using hv) false
    simpa using this
  have hlk1 := hlk w.drew (KC.refl _ w).drew
  have hlk2 := hlk (w.alloc (.cells #[.slice none 0 0, .map none] 81)).drew ((KC.refl _ w).alloc _).drew
  clear hlk
  have q2 := eql82_some
  have hlt := hob.lt
  have hltp := block_lt_of_cell hs0
  simp only at hltp
  replace H := toHid H
  replace hm := toHid hm
  replace hk := toHid hk
  generalize hs2 : scN 2 = s at hs0 q q' hlk1 hlk2 H hm hk
  go_enter Ybaf.func14, Ybaf.ntmps14
  go_wp2
  go_region
  all_goals (
    have k1 : KC nob w (w.alloc (.cells #[.slice la ln lc, .map mx] 81)).drew := ((KC.refl _ w).alloc _).drew
    have z1 : (w.alloc (.cells #[.slice la ln lc, .map mx] 81)).drew.heap.size = w.heap.size + 1 := by simp
    have s1 : Sh (w.alloc (.cells #[.slice la ln lc, .map mx] 81)).drew w.heap.size 81 2 := ⟨_, heap_alloc_new w _, rfl⟩
    have c0 : (w.alloc (.cells #[.slice la ln lc, .map mx] 81)).drew.cell? ⟨w.heap.size, 0, none⟩ = some (.slice la ln lc) := cell_of_row _ _ _ _ _ _ (heap_alloc_new w _)
    have c1 : (w.alloc (.cells #[.slice la ln lc, .map mx] 81)).drew.cell? ⟨w.heap.size, 0 + 1, none⟩ = some (.map mx) := cell_of_row _ _ _ _ _ _ (heap_alloc_new w _)
    have HH := toHid (H.out _ k1 z1 s1 c0 c1)
    clear k1 z1 s1 c0 c1 hlk1 hlk2
    go_wp2_with fail
    refine HH.out.mono ?_
    rintro e w2 (⟨rfl, hp⟩ | ⟨rfl, lv', mv', d0, d1, d5, dp, hm2, hpost⟩)
    · replace hp := toHid hp
      go_wp2
      exact hp.out
    · obtain ⟨wu, hu, hmu, ku, hzu⟩ := MapE.put_one strOK Ybaf.underlying82 hm2 hk.out (.agg #[lv', mv'])
      have hu1 : (Instr.mapUpdate 82 (.map (some xm)) (.string s) (.agg #[lv', mv'])).run Ybaf.prog w2.drew = .ok () wu.drew := hu 1
      have hfin := toHid (hpost wu.drew ku.drew hmu)
      simp only [Nat.zero_add] at d1
      clear hu hm2 hmu ku hzu hpost
      go_wp2
      go_region
      go_wp2
      exact hfin.out)

set_option maxRecDepth 20000 in
set_option maxHeartbeats 1600000 in
/-- .. of the schema s1: there is no map of others yet. -/
theorem ov14_s1new (ob oo t N cb pb po : Nat) (w : World) (hs0 : w.cell? ⟨pb, po, none⟩ = some (.string (scN 2))) (hx : w.cell? ⟨ob, oo + 5, none⟩ = some (.map none)) (hob : Sh w ob t N)
    (post : Ending → World → Prop)
    (H : ∀ w1, KC nob w w1 → w1.heap.size = w.heap.size + 1 → Sh w1 w.heap.size 81 2 → w1.cell? ⟨w.heap.size, 0, none⟩ = some (.slice none 0 0) → w1.cell? ⟨w.heap.size, 0 + 1, none⟩ = some (.map none) → Calls Ybaf.prog 29 #[.pointer (some ⟨w.heap.size, 0, none⟩), .pointer (some ⟨pb, po, none⟩), .pointer (some ⟨cb, 10, none⟩)] w1 fun e w' =>
      (e = .returned (.bool true) ∧ ∃ lv' mv', w'.cell? ⟨w.heap.size, 0, none⟩ = some lv' ∧ w'.cell? ⟨w.heap.size, 0 + 1, none⟩ = some mv' ∧ w'.cell? ⟨ob, oo + 5, none⟩ = some (.map none) ∧ Sh w' ob t N ∧ w'.cell? ⟨pb, po, none⟩ = some (.string (scN 2)) ∧ w.heap.size < w'.heap.size ∧ pb ≠ ob ∧ (∀ w'' xm, w'.heap.size ≤ xm → KC (fun x y => x = ob ∧ y = oo + 5) w' w'' → w''.cell? ⟨ob, oo + 5, none⟩ = some (.map (some xm)) → MapE w'' xm [(.string (scN 2), .agg #[lv', mv'])] → post (.returned (.bool true)) w''))) :
    Calls Ybaf.prog 14 #[.pointer (some ⟨ob, oo, none⟩), .pointer (some ⟨pb, po, none⟩), .pointer (some ⟨cb, 10, none⟩)] w post := by
  have q := sc2
  have q' := sc2'
  have hk : strKey (.string (scN 2)) := ⟨_, rfl, by decide⟩
  have hlk := lookNil82 (scN 2)
  have q2 := eql82_nil
  have hmk := @run_makeMap Ybaf.prog
  have hlt := hob.lt
  have hltp := block_lt_of_cell hs0
  simp only at hltp
  replace H := toHid H
  replace hk := toHid hk
  generalize hs2 : scN 2 = s at hs0 q q' hlk H hk
  go_enter Ybaf.func14, Ybaf.ntmps14
  go_wp2
  go_region
  all_goals (
    have k1 : KC nob w (w.alloc (.cells #[.slice none 0 0, .map none] 81)).drew := ((KC.refl _ w).alloc _).drew
    have z1 : (w.alloc (.cells #[.slice none 0 0, .map none] 81)).drew.heap.size = w.heap.size + 1 := by simp
    have s1 : Sh (w.alloc (.cells #[.slice none 0 0, .map none] 81)).drew w.heap.size 81 2 := ⟨_, heap_alloc_new w _, rfl⟩
    have c0 : (w.alloc (.cells #[.slice none 0 0, .map none] 81)).drew.cell? ⟨w.heap.size, 0, none⟩ = some (.slice none 0 0) := cell_of_row _ _ _ _ _ _ (heap_alloc_new w _)
    have c1 : (w.alloc (.cells #[.slice none 0 0, .map none] 81)).drew.cell? ⟨w.heap.size, 0 + 1, none⟩ = some (.map none) := cell_of_row _ _ _ _ _ _ (heap_alloc_new w _)
    have HH := toHid (H.out _ k1 z1 s1 c0 c1)
    clear k1 z1 s1 c0 c1 hlk
    go_wp2_with fail
    refine HH.out.mono ?_
    rintro e w2 ⟨rfl, lv', mv', d0, d1, d5, hob2, dp, hlt2, hpo, hpost⟩
    have lob := hob2.lt
    have fob := hob2.frozen (oo + 5)
    simp only [Nat.zero_add] at d1
    have hm3 : MapE ((w2.setCell ⟨ob, oo + 5, none⟩ (.map (some w2.heap.size))).alloc (.map #[] 0)) w2.heap.size [] := by
      have := MapE.made (w2.setCell ⟨ob, oo + 5, none⟩ (.map (some w2.heap.size)))
      simpa using this
    have k3 : KC (fun x y => x = ob ∧ y = oo + 5) w2 ((w2.setCell ⟨ob, oo + 5, none⟩ (.map (some w2.heap.size))).alloc (.map #[] 0)) := ((KC.refl _ w2).set ⟨rfl, rfl⟩ _).alloc _
    have e5 : ((w2.setCell ⟨ob, oo + 5, none⟩ (.map (some w2.heap.size))).alloc (.map #[] 0)).cell? ⟨ob, oo + 5, none⟩ = some (.map (some w2.heap.size)) := (World.cell?_alloc_lt _ _ _ (by simpa using lob)).trans (World.cell?_setCell_same _ _ _ d5)
    obtain ⟨wu, hu, hmu, ku, hzu⟩ := MapE.put_draw strOK Ybaf.underlying82 hm3 (by simp) hk.out (by simp) (.agg #[lv', mv'])
    have hu1 : (Instr.mapUpdate 82 (.map (some w2.heap.size)) (.string s) (.agg #[lv', mv'])).run Ybaf.prog ((w2.setCell ⟨ob, oo + 5, none⟩ (.map (some w2.heap.size))).alloc (.map #[] 0)).drew = .ok () wu.drew := hu 1
    have hfin := toHid (hpost wu.drew w2.heap.size (Nat.le_refl _) (k3.transNew ku.drew (fun x y e => .inr (by omega))) (ku.drew.cell _ _ _ (fun e => by omega) e5) hmu)
    have p0 := (k3.cell _ _ _ (fun e => by omega) d0)
    have p1 := (k3.cell _ _ _ (fun e => by omega) d1)
    have pp := (k3.cell _ _ _ (fun e => hpo e.1) dp)
    clear hu hm3 hmu ku hzu hpost k3
    go_wp2
    go_region
    go_wp2
    exact hfin.out)
end Go.Proofs.YbulkzmgFmt.Sc
