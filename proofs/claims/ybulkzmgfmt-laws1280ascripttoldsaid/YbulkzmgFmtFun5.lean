import Derived.Test.YbulkzmgFmtFun4
namespace Go.Proofs.YbulkzmgFmt.Sc
open Go.RowKit Go.Extern.Stop Go.Stop Go.Extern
set_option linter.unusedVariables false

set_option maxRecDepth 20000 in
set_option maxHeartbeats 6400000 in
theorem add5_none (F : Interp) {w : World} {g : Gh} {b3 : Bool} (h : Cat w g b3) (hF : F.answers w.tape) (hP : PT w) (s m r : Nat) (ka : Nat → Nat) (a0 : Option Addr) (gc : Nat) (hs : s < 3) (hm : m < 2) (hr : r < 8) (hfs : g.fs.length ≤ 255) :
    Calls Ybaf.prog 5 #[.pointer (some ⟨g.cb, 0, none⟩), .string (scN s), .string (nmN m), .slice a0 0 gc, .string (tyN r)] w (AddPost g b3 s m 0 ka r w) := by
  have H1 := toHid (fun what => check_schema_ok what s w hP hs)
  have H2 := toHid (fun (w1 : World) (k1 : KC nob w w1) what => check_name_ok what m w1 (hP.kc k1) hm)
  have hh := toHid h
  have hFF := toHid hF
  replace hP := toHid hP
  generalize hsc : scN s = sc at H1
  generalize hnm : nmN m = nm at H2
  generalize htr : tyN r = tr
  clear h hF
  go_enter Ybaf.func5, Ybaf.ntmps5
  go_wp2_with
    (go_at_call 8; first
      | (with_reducible refine (H2.out _ k1.out _).mono ?_; rintro e w2 ⟨rfl, k2⟩; have k2' := toHid (k1.out.trans k2); clear k2)
      | (with_reducible refine (H1.out _).mono ?_; rintro e w1 ⟨rfl, k1⟩; replace k1 := toHid k1))
  refine wp_loop_rounds 1 ?_
  rw [rounds_succ]
  have hC4 := hh.out.nob k2'.out
  have hC0 := hC4.body.c0
  have hMt := hC4.body.mt
  have hn : (0 : Nat) ≤ 100 := by omega
  have x4 : Ext w g g := Ext.refl w g
  have efs4 : g.fs = g.fs := rfl
  have eks4 : g.ks = g.ks := rfl
  have kw4 : KC (fun b _ => g.kd b ≠ 0) w w2 := k2'.out.any
  have hk7 : ∀ j, j < 0 → ka j < 7 := fun j hj => absurd hj (Nat.not_lt_zero _)
  have hptr : Ptrs w2 none 0 (fun j => ⟨g.ty (ka j), 0, none⟩) := .inl rfl
  have halt : ∀ b o, (none : Option Addr) = some ⟨b, o, none⟩ → b < w2.heap.size := fun b o e => by cases e
  have haO : ((0 : Nat) = 0 ∧ (none : Option Addr) = none) ∨ ((0 : Nat) < 0 ∧ (none : Option Addr) = some ⟨0, 0, none⟩ ∧ g.kd 0 = 4 ∧ (0 = g.fa.b → 0 + 0 ≤ g.fa.o) ∧ ∀ j, j < 0 → w2.cell? ⟨0, 0 + j, none⟩ = some (.pointer (some ⟨g.ty (ka j), 0, none⟩))) := .inl ⟨rfl, rfl⟩

  by_cases hr7 : r < 7
  · have HN := named_ok g.cb g.tm r g.ty w2 hC0 hMt hr7
    rw [htr] at HN
    replace HN := toHid HN
    have hgood : Good s m 0 ka r := ⟨hs, hm, hn, hr7, hk7⟩
    have HW : Hid (Calls Ybaf.prog 12 #[.pointer (some ⟨g.cb, 0, none⟩), .string sc, .string nm, .slice none 0 0, .pointer (some ⟨g.ty r, 0, none⟩)] w2 fun e w5 => ∃ qb qo φ g5, e = .returned (.pointer (some ⟨qb, qo, none⟩)) ∧ φ.ad = ⟨qb, qo, none⟩ ∧ Ready w g b3 s m 0 ka r φ g5 w5) := by
      obtain ⟨hlF, faF, hqF, hfaF⟩ := hC4.body.Ff
      rw [← hsc, ← hnm, ← x4.cb]
      refine (newf12 g.cb g.ff.b g.ff.o g.ff.len faF (scN s) (nmN m) none 0 0 ka g.ty ⟨g.ty r, 0, none⟩ w2 hC4.body.scb hqF hfaF hlF hptr (fun j hj => by rw [← x4.ty]; exact hC4.body.tys _ (hk7 j hj)) halt hn (scN_size s) (nmN_size m)).mono ?_
      rintro e w5 ⟨qb, qo, faq, Lq, rfl, kq, cq, hLq, shq, eq5, hcellq, whq⟩
      obtain ⟨g5, R⟩ := ready_new hC4 x4 efs4 eks4 kw4 s m 0 r ka hs hm hn hr7 hk7 none 0 0 haO kq cq hLq shq eq5 hcellq whq
      exact ⟨qb, qo, _, g5, rfl, rfl, R⟩
    replace hMt := toHid hMt
    replace hC4 := toHid hC4
    replace haO := toHid haO
    replace hk7 := toHid hk7
    replace hptr := toHid hptr
    replace halt := toHid halt
    skip
    generalize hrt : g.ty r = rt at HN HW
    have lcb := hh.out.body.scb.lt
    go_wp2_with first
      | (go_at_call 11; refine HN.out.mono ?_; rintro e w' ⟨rfl, rfl⟩)
      | (go_at_call 12; refine HW.out.mono ?_; rintro e w5 ⟨qb, qo, φ, g5, rfl, hqa, hR⟩;
          have f1 : w5.cell? ⟨qb, qo + 1, none⟩ = some (.string nm) := (by have h1 := hR.fn.cells 1 _ rfl; rw [hR.is.2.1, hnm] at h1; have h2 : φ.b = qb := congrArg Addr.block hqa; have h3 : φ.o = qo := congrArg Addr.off hqa; rw [h2, h3] at h1; exact h1);
          have l5 : qb < w5.heap.size := block_lt_of_cell f1;
          have t2 : w5.cell? ⟨g.cb, 2, none⟩ = some (.map (some g.fm)) := (by have h1 := hR.cat.c2; rw [hR.ext.cb, hR.ext.fm] at h1; exact h1);
          have l2 : g.cb < w5.heap.size := block_lt_of_cell t2;
          replace hqa := toHid hqa; replace hR := toHid hR)
    have k6 : ∀ mq, KC nob w5 ((w5.alloc (.cells #[.string nm, .int .i64 0] 76)).drewN mq) := fun mq => (KC.alloc1 w5 _).drewN mq
    by_cases hex : ∃ j, j < g.ks.length ∧ g.key j = (m, 0)
    · obtain ⟨j, hj, hkey⟩ := hex
      have hj5 : j < g5.ks.length := by rw [hR.out.ks]; exact hj
      have hkey5 : g5.key j = (m, 0) := by unfold Gh.key; rw [hR.out.ks]; exact hkey
      obtain ⟨ovb, ovo, hov⟩ : ∃ a b, g5.ov j = (a, b) := ⟨_, _, rfl⟩
      have hlk : ∀ mq, (Instr.lookup 32 (.map (some g.fm)) (.agg #[.string nm, .int .i64 0]) true).run Ybaf.prog ((w5.alloc (.cells #[.string nm, .int .i64 0] 76)).drewN mq) = .ok (.tuple #[.pointer (some ⟨ovb, ovo, none⟩), .bool true]) ((w5.alloc (.cells #[.string nm, .int .i64 0] 76)).drewN mq) := fun mq => by
        have hc := ((hR.out.cat.nob (k6 mq)).mf)
        have := Cat.found hR.out.cat.body hc j m 0 hj5 hkey5 true
        rw [hR.out.ext.fm, hnm, hov] at this
        simpa using this
      go_quiet (fail)
      clear hlk
      have k6' := k6 nq
      clear k6
      have R6 := toHid (hR.out.nob k6')
      replace t2 := k6'.cell _ _ _ id t2
      generalize (w5.alloc (.cells #[.string nm, .int .i64 0] 76)).drewN nq = W6 at k6' R6 t2 ⊢
      have HO : Hid (Calls Ybaf.prog 14 #[.pointer (some ⟨ovb, ovo, none⟩), .pointer (some ⟨qb, qo, none⟩), .pointer (some ⟨g.cb, 10, none⟩)] W6 (OvPost g5 j φ W6)) := by
        have := ovadd R6.out.cat.body j hj5 φ R6.out.fn (by rw [hkey5, R6.out.is.2.1, R6.out.is.2.2.1]) (by rw [R6.out.fs]; exact hfs)
        rw [hov, hqa.out, R6.out.ext.cb] at this
        exact this
      clear f1 l5 l2
      go_wp2_with fail
      refine HO.out.mono ?_
      rintro e w7 (⟨⟨ψ, hψ, hsame⟩, rfl, k7⟩ | ⟨hnd, rfl, g7, h7, e7, hkd7, k7⟩)
      · -- it was there
        have hdup : Dup g s m 0 ka := ⟨ψ, by rw [← R6.out.fs]; exact hψ, hsame.1.trans R6.out.is.1, hsame.2.1.trans R6.out.is.2.1, hsame.2.2.1.trans R6.out.is.2.2.1, by have := hsame.2.2.2; unfold Fn.li at this ⊢; rw [this, R6.out.is.2.2.2.1, R6.out.is.2.2.1]⟩
        have f4 : w7.cell? ⟨qb, qo + 4, none⟩ = some (.string (txt (scN φ.s) (nmN φ.m) φ.li)) := k7.cell _ _ _ id (by
          have h1 := R6.out.fn.cells 4 _ rfl
          have h2 : φ.b = qb := congrArg Addr.block hqa.out
          have h3 : φ.o = qo := congrArg Addr.off hqa.out
          rw [h2, h3] at h1
          exact h1)
        have lq := block_lt_of_cell f4
        simp only at lq
        have HE := toHid (errorf_twice F w7.heap.size qb qo _ (w7.alloc (.cells #[.iface 57 (.pointer (some ⟨qb, qo, none⟩))] 20)) (by show F.answers w7.tape; rw [k7.tape, R6.out.kc.tape]; exact hFF.out) (cell_of_row _ _ _ _ _ _ (heap_alloc_new _ _)) ((World.cell?_alloc_lt _ _ _ (by exact lq)).trans f4))
        have hfin : Hid (∀ (w8 : World) (t : TypeId) (a : Addr), KC nob W6 w8 → AddPost g b3 s m 0 ka r w (.returned (.tuple #[.pointer none, .iface t (.pointer (some a))])) w8) := fun w8 t a k8 => .inl ⟨.inr hdup, Failed.nob R6.out.cat R6.out.ext R6.out.fs R6.out.ks R6.out.kc k8⟩
        have k7' := toHid k7
        clear f4 k7 hdup
        go_wp2_with (go_at_call 9; refine HE.out.mono ?_; rintro e w8 ⟨t8, a8, rfl, k8⟩; replace k8 := toHid k8)
        go_ret2
        exact hfin.out _ _ _ ((k7'.out.alloc _).trans k8.out)
      · -- it is new
        have hnd' : ¬ Dup g s m 0 ka := fun ⟨ψ, hψ, q1, q2, q3, q4⟩ => hnd ψ (by rw [R6.out.fs]; exact hψ) ⟨q1.trans R6.out.is.1.symm, q2.trans R6.out.is.2.1.symm, q3.trans R6.out.is.2.2.1.symm, by rw [q4]; unfold Fn.li; rw [R6.out.is.2.2.2.1, R6.out.is.2.2.1]⟩
        obtain ⟨t3, f0, wu, hu, t5, shu, hmade⟩ := found_ok R6.out hs hj hkey h7 e7 hkd7 k7
        rw [hsc] at f0 hu
        have h2 : φ.b = qb := congrArg Addr.block hqa.out
        have h3 : φ.o = qo := congrArg Addr.off hqa.out
        rw [h2, h3] at f0
        rw [hqa.out] at hmade
        have hfin : Hid (AddPost g b3 s m 0 ka r w (.returned (.tuple #[.pointer (some ⟨qb, qo, none⟩), .nilIface])) (wu.setCell ⟨g.cb, 5, none⟩ (.int .i64 ((g.fs.length : Nat) + 1)))) := .inr ⟨hgood, hnd', hmade⟩
        have fz5 := shu.frozen 5
        have lcu := shu.lt
        clear hmade h2 h3 e7 hkd7 hnd hnd' t2
        replace h7 := toHid h7
        replace k7 := toHid k7
        replace shu := toHid shu
        go_wp2
        go_region
        go_wp2
        go_ret2
        exact hfin.out
    · have hno : ∀ j, j < g.ks.length → g.key j ≠ (m, 0) := fun j hj e => hex ⟨j, hj, e⟩
      have hno5 : ∀ j, j < g5.ks.length → g5.key j ≠ (m, 0) := fun j hj => by rw [hR.out.ks] at hj; unfold Gh.key; rw [hR.out.ks]; exact hno j hj
      have hlk : ∀ mq, (Instr.lookup 32 (.map (some g.fm)) (.agg #[.string nm, .int .i64 0]) true).run Ybaf.prog ((w5.alloc (.cells #[.string nm, .int .i64 0] 76)).drewN mq) = .ok (.tuple #[.pointer none, .bool false]) ((w5.alloc (.cells #[.string nm, .int .i64 0] 76)).drewN mq) := fun mq => by
        have hc := ((hR.out.cat.nob (k6 mq)).mf)
        have := Cat.notFound hR.out.cat.body hc m 0 hm hno5
        rw [hR.out.ext.fm, hnm] at this
        exact this
      go_quiet (fail)
      clear hlk
      have k6' := k6 nq
      have ky0 : ((w5.alloc (.cells #[.string nm, .int .i64 0] 76)).drewN nq).cell? ⟨w5.heap.size, 0, none⟩ = some (.string nm) := cell_of_row _ _ _ _ _ _ (heap_alloc_new w5 _)
      have ky1 : ((w5.alloc (.cells #[.string nm, .int .i64 0] 76)).drewN nq).cell? ⟨w5.heap.size, 1, none⟩ = some (.int .i64 0) := cell_of_row _ _ _ _ _ _ (heap_alloc_new w5 _)
      clear k6
      have R6 := toHid (hR.out.nob k6')
      have l5z := hR.out.cat.body.beyond
      replace t2 := k6'.cell _ _ _ id t2
      generalize (w5.alloc (.cells #[.string nm, .int .i64 0] 76)).drewN nq = W6 at k6' R6 t2 ky0 ky1 ⊢
      have hky : g5.kd w5.heap.size = 0 := l5z _ (Nat.le_refl _)
      clear l5z
      have HO : Hid (Calls Ybaf.prog 13 #[.pointer (some ⟨g.cb, 9, none⟩)] W6 (NewP oz 84 6 g5.cb 9 g5.fo.b g5.fo.o g5.fo.len W6)) := by
        obtain ⟨hlF, faF, hqF, hfaF⟩ := R6.out.cat.body.Fo
        have := new13 g5.cb g5.fo.b g5.fo.o g5.fo.len faF W6 R6.out.cat.body.scb hqF hfaF hlF
        rw [R6.out.ext.cb] at this ⊢
        exact this
      have hlen : ∀ w' ty, KC (fun x y => x = g5.cb ∧ y = 9) W6 w' → (Builtin.len_ #[32] ty #[.map (some g.fm)]).run Ybaf.prog w' = .ok (goInt g.ks.length) w' := fun w' ty k => by
        have hm := R6.out.cat.mf.kc k (fun o q => by have h1 := R6.out.cat.body.kcb; have h8 := R6.out.cat.body.kfm; rw [q.1] at h8; omega)
        have := hm.len32 ty
        rw [R6.out.ext.fm] at this
        rw [this]
        unfold FK
        rw [List.length_map, List.length_range, R6.out.ks]
      replace hlen := toHid hlen
      clear f1 l5 l2
      go_wp2_with fail
      refine HO.out.mono ?_
      rintro e w7 ⟨ob, oo, fao, Lo, rfl, ko, co, hLo, sho, eo, who⟩
      have hl := fun ty => hlen.out w7 ty ko
      have t2' : w7.cell? ⟨g.cb, 2, none⟩ = some (.map (some g.fm)) := ko.cell _ _ _ (fun q => by omega) t2
      obtain ⟨uo, huo⟩ := sho.some (i := oo) (by omega)
      have fzo := sho.frozen oo
      replace ko := toHid ko
      replace co := toHid co
      replace hLo := toHid hLo
      replace sho := toHid sho
      replace eo := toHid eo
      replace who := toHid who
      go_wp2_with fail
      have hl7 : ∀ x, g5.kd x = 0 → x < W6.heap.size → x ≠ g5.cb ∧ x ≠ ob := fun x hx hxl => by
        refine ⟨fun e => by have := R6.out.cat.body.kcb; rw [e] at hx; omega, fun e => ?_⟩
        rcases who.out with ⟨q1, q2, q3, _⟩ | ⟨q1, _⟩
        · have := R6.out.cat.body.kfo (by omega)
          rw [e, q1] at hx
          omega
        · omega
      obtain ⟨gk, hk, ek, xk, eov, eov', k67, hob⟩ := R6.out.cat.body.newov m 0 hm hn hno5 ko.out co.out hLo.out sho.out eo.out who.out (.int .i64 g.ks.length)
      have lky := block_lt_of_cell ky0
      simp only at lky
      have hkyn := hl7 _ hky lky
      have z0 := k67.cell _ _ _ (fun q => by rcases q with ⟨q, _⟩ | ⟨q, _⟩; exact hkyn.1 q; exact hkyn.2 q) ky0
      have z1 := k67.cell _ _ _ (fun q => by rcases q with ⟨q, _⟩ | ⟨q, _⟩; exact hkyn.1 q; exact hkyn.2 q) ky1
      have hfk := R6.out.fn.newov R6.out.cat.body ek xk k67 hob
      have hjk : g5.ks.length < gk.ks.length := by rw [ek]; simp
      have HP2 : Hid (Calls Ybaf.prog 14 #[.pointer (some ⟨ob, oo, none⟩), .pointer (some ⟨qb, qo, none⟩), .pointer (some ⟨g.cb, 10, none⟩)] (w7.setCell ⟨ob, oo, none⟩ (.int .i64 g.ks.length)) (OvPost gk g5.ks.length φ (w7.setCell ⟨ob, oo, none⟩ (.int .i64 g.ks.length)))) := by
        have := ovadd hk g5.ks.length hjk φ hfk (by unfold Gh.key; rw [ek]; simp [R6.out.is.2.1, R6.out.is.2.2.1]) (by rw [ek]; show g5.fs.length ≤ 255; rw [R6.out.fs]; exact hfs)
        rw [eov, hqa.out, xk.cb, R6.out.ext.cb] at this
        exact this
      clear ky0 ky1 t2 t2' hl huo fzo
      replace hk := toHid hk
      replace k67 := toHid k67
      generalize w7.setCell ⟨ob, oo, none⟩ (.int .i64 g.ks.length) = w7' at hk k67 HP2 z0 z1 hfk ⊢
      go_wp2_with fail
      refine HP2.out.mono ?_
      rintro e w8 (⟨⟨ψ, hψ, hsame⟩, rfl, k8⟩ | ⟨hnd, rfl, g8, h8, e8, hkd8, k8⟩)
      · exfalso
        have hψ5 : ψ ∈ g5.fs := by rw [ek] at hψ; exact hψ
        obtain ⟨j, hj, hje⟩ := R6.out.cat.body.kin ψ hψ5
        exact hno5 j hj (by rw [hje, hsame.2.1, hsame.2.2.1, R6.out.is.2.1, R6.out.is.2.2.1])
      · have hnd' : ¬ Dup g s m 0 ka := fun ⟨ψ, hψ, q1, q2, q3, q4⟩ => hnd ψ (by rw [ek]; show ψ ∈ g5.fs; rw [R6.out.fs]; exact hψ) ⟨q1.trans R6.out.is.1.symm, q2.trans R6.out.is.2.1.symm, q3.trans R6.out.is.2.2.1.symm, by rw [q4]; unfold Fn.li; rw [R6.out.is.2.2.2.1, R6.out.is.2.2.1]⟩
        obtain ⟨t2, t3, f0, w9, hu9, t3', f0', wu, hu, t5, shu, hmade⟩ := new_ok R6.out hs hm hno hk.out ek xk eov eov' k67.out hob h8 e8 hkd8 k8
        have kgk : gk.kd w5.heap.size = 0 := (xk.kd _ lky).trans hky
        have y0 := k8.cell _ _ _ (fun q => (Own2.no hk.out hjk q).1 kgk) z0
        have y1 := k8.cell _ _ _ (fun q => (Own2.no hk.out hjk q).1 kgk) z1
        rw [hsc] at f0 f0' hu
        rw [hnm, show ((0 : Nat) : Int) = 0 from rfl] at hu9
        have h2 : φ.b = qb := congrArg Addr.block hqa.out
        have h3 : φ.o = qo := congrArg Addr.off hqa.out
        rw [h2, h3] at f0 f0'
        rw [hqa.out] at hmade
        have hfin : Hid (AddPost g b3 s m 0 ka r w (.returned (.tuple #[.pointer (some ⟨qb, qo, none⟩), .nilIface])) (wu.setCell ⟨g.cb, 5, none⟩ (.int .i64 ((g.fs.length : Nat) + 1)))) := .inr ⟨hgood, hnd', hmade⟩
        have fz5 := shu.frozen 5
        have lcu := shu.lt
        clear hmade h2 h3 e8 hkd8 hnd hnd' z0 z1 ek xk eov eov' hob hfk kgk hky hkyn hl7 lky hno hno5 hex
        replace h8 := toHid h8
        replace k8 := toHid k8
        replace shu := toHid shu
        go_wp2
        go_region
        go_wp2
        go_region
        go_wp2
        go_ret2
        exact hfin.out
  · have hr7' : r = 7 := by omega
    have HN := named_no F g.cb g.tm g.ty w2 (kw4.ans hFF.out) hC0 hMt
    rw [← hr7', htr] at HN
    replace HN := toHid HN
    have HE := toHid (fun (w5 : World) (k5 : KC nob w2 w5) (a : Addr) (t : ByteArray) (ht : w5.cell? a = some (.string t)) => errorf_ret F w5.heap.size sc nm a t (w5.alloc (.cells #[.iface 9 (.string sc), .iface 9 (.string nm), .iface 110 (.pointer (some a))] 20)) ((kw4.trans k5.any).ans hFF.out) (cell_of_row _ _ _ _ _ _ (heap_alloc_new _ _)) (cell_of_row _ _ _ _ _ _ (heap_alloc_new _ _)) (cell_of_row _ _ _ _ _ _ (heap_alloc_new _ _)) ((World.cell?_alloc_lt _ _ _ (block_lt_of_cell ht)).trans ht))
    have hfin : Hid (∀ (w5 : World) (t : TypeId) (a : Addr), KC nob w2 w5 → AddPost g b3 s m 0 ka r w (.returned (.tuple #[.pointer none, .iface t (.pointer (some a))])) w5) := fun w5 t a k5 => .inl ⟨.inl (fun hg => by have := hg.2.2.2.1; omega), Failed.nob hC4 x4 efs4 eks4 kw4 k5⟩
    replace hMt := toHid hMt
    replace hC4 := toHid hC4
    replace haO := toHid haO
    replace hk7 := toHid hk7
    replace hptr := toHid hptr
    replace halt := toHid halt
    skip
    clear hr7'
    go_wp2_with first
      | (go_at_call 11; refine HN.out.mono ?_; rintro e w5 ⟨v, rfl, ⟨ea, et, rfl, hct⟩, k5⟩; replace k5 := toHid k5; replace hct := toHid hct)
      | (go_at_call 9; refine (HE.out _ k5.out _ _ hct.out).mono ?_; rintro e w6 ⟨et', ea', rfl, k6⟩; replace k6 := toHid k6)
    go_ret2
    exact hfin.out _ _ _ ((k5.out.alloc _).trans k6.out)

end Go.Proofs.YbulkzmgFmt.Sc
