import Derived.Test.YbulkzmgFmtFun2
namespace Go.Proofs.YbulkzmgFmt.Sc
open Go.RowKit Go.Extern.Stop Go.Stop Go.Extern
set_option linter.unusedVariables false

/-- The key was there, the function is new. -/
theorem found_ok {w W6 w7 : World} {g g5 g7 : Gh} {b3 : Bool} {s m n r j : Nat} {ka : Nat → Nat} {φ : Fn} (R : Ready w g b3 s m n ka r φ g5 W6) (hs : s < 3) (hj : j < g.ks.length) (hkey : g.key j = (m, n)) (h7 : CatB w7 g7) (e7 : g7 = { g5 with fs := g5.fs ++ [φ], ss := g7.ss, xm := g7.xm, fl := g7.fl, kd := g7.kd }) (hkd : ∀ b, b < W6.heap.size → g7.kd b = g5.kd b) (k7 : KC (Own2 g5 j φ.s) W6 w7) :
    w7.cell? ⟨g.cb, 3, none⟩ = some (.map (some g.sm)) ∧ w7.cell? ⟨φ.b, φ.o, none⟩ = some (.string (scN s)) ∧ ∃ wu, (Instr.mapUpdate 33 (.map (some g.sm)) (.string (scN s)) (.bool true)).run Ybaf.prog w7.drew = .ok () wu ∧ wu.cell? ⟨g.cb, 5, none⟩ = some (.int .i64 (g.fs.length : Nat)) ∧ Sh wu g.cb 49 11 ∧
      Made g s m n ka r w (.returned (.tuple #[.pointer (some φ.ad), .nilIface])) (wu.setCell ⟨g.cb, 5, none⟩ (.int .i64 ((g.fs.length : Nat) + 1))) := by
  have hb := R.cat.body
  have hj5 : j < g5.ks.length := by rw [R.ks]; exact hj
  have ecb : g7.cb = g.cb := by rw [e7]; exact R.ext.cb
  have efm : g7.fm = g.fm := by rw [e7]; exact R.ext.fm
  have esm : g7.sm = g.sm := by rw [e7]; exact R.ext.sm
  have eks : g7.ks = g.ks := by rw [e7]; exact R.ks
  have efs : g7.fs = g.fs ++ [φ] := by rw [e7, ← R.fs]
  have no := fun {b o} (q : Own2 g5 j φ.s b o) => Own2.no hb hj5 q
  have hk1 := hb.kcb
  have t2 := k7.cell _ _ _ (fun q => by have := (no q).2.2.2.2 hk1; omega) R.cat.c2
  have t3 := k7.cell _ _ _ (fun q => by have := (no q).2.2.2.2 hk1; omega) R.cat.c3
  have t5 := k7.cell _ _ _ (fun q => by have := (no q).2.2.2.2 hk1; omega) R.cat.c5
  have mf := R.cat.mf.kc k7 (fun o q => (no q).2.1 hb.kfm)
  have ms := R.cat.ms.kc k7 (fun o q => (no q).2.2.1 hb.ksm)
  have f0 : w7.cell? ⟨φ.b, φ.o, none⟩ = some (.string (scN s)) := by
    have := R.fn.cells 0 _ rfl
    rw [R.is.1] at this
    exact k7.cell _ _ _ (fun q => (no q).2.2.2.1 R.fn.kb) (by simpa using this)
  rw [R.ext.cb, R.ext.fm] at t2
  rw [R.ext.cb, R.ext.sm] at t3
  rw [R.ext.cb, R.fs] at t5
  rw [R.ext.sm] at ms
  obtain ⟨wu, b3', hu, hm, hb3, hk⟩ := SL_put ms s hs
  have lsm : g.cb ≠ g.sm := fun e => by
    have h1 := h7.kcb
    have h2 := h7.ksm
    rw [ecb] at h1; rw [esm, ← e] at h2; omega
  have x7 : Ext w g g7 := R.ext.trans (w' := W6) ⟨by rw [e7], by rw [e7], by rw [e7], by rw [e7], by rw [e7], hkd⟩ R.kc.size
  have kW : KC (fun b _ => g.kd b ≠ 0) w w7 := R.kc.transNew k7 (fun b o q => by
    by_cases hx : b < w.heap.size
    · refine .inl ?_
      rw [← R.ext.kd b hx]
      exact (no q).1
    · exact .inr (by omega))
  have hkey5 : (∃ j, j < g.ks.length ∧ g.key j = (m, n)) := ⟨j, hj, hkey⟩
  have eov7 : g7.ov = g5.ov := by rw [e7]
  have hmf7 : MapE w7 g7.fm (FK g7.ks g7.ov g7.ks.length) := by
    have := mf
    rw [R.ext.fm] at this
    rw [efm, eks, eov7, ← R.ks]
    exact this
  have hend := made_end (w := w) (g := g) (b3 := b3) (wu := wu) (b3' := b3') s m n r ka φ h7 x7 efs R.is (.inl ⟨hkey5, eks⟩) kW (by rw [ecb, efm]; exact t2) (by rw [ecb, esm]; exact t3) ⟨_, by rw [ecb]; exact t5⟩ hmf7 (by rw [esm]; exact hk) (by rw [esm]; exact hm) hb3
  rw [ecb, efs] at hend
  refine ⟨t3, f0, wu, hu, hk.cell _ _ _ (fun q => lsm q) t5, hk.shape _ _ _ (k7.shape _ _ _ (by rw [← R.ext.cb]; exact hb.scb)), ?_⟩
  have hlen : (((g.fs ++ [φ]).length : Nat) : Int) = (g.fs.length : Nat) + 1 := by simp
  rw [hlen] at hend
  exact hend

/-- The key is new. -/
theorem new_ok {w W6 w7 w8 : World} {g g5 gk g8 : Gh} {b3 : Bool} {s m n r : Nat} {ka : Nat → Nat} {φ : Fn} {ob oo : Nat} (R : Ready w g b3 s m n ka r φ g5 W6) (hs : s < 3) (hm2 : m < 2) (hno : ∀ j, j < g.ks.length → g.key j ≠ (m, n))
    (hk : CatB w7 gk) (ek : gk = { g5 with fo := gk.fo, kd := gk.kd, ks := g5.ks ++ [(m, n)], ov := gk.ov }) (xk : Ext W6 g5 gk) (eov : gk.ov g5.ks.length = (ob, oo)) (eov' : ∀ i, i < g5.ks.length → gk.ov i = g5.ov i) (k67 : KC (fun x y => (x = g5.cb ∧ y = 9) ∨ (x = ob ∧ y = oo)) W6 w7) (hob : g5.kd ob = 5 ∨ W6.heap.size ≤ ob)
    (h8 : CatB w8 g8) (e8 : g8 = { gk with fs := gk.fs ++ [φ], ss := g8.ss, xm := g8.xm, fl := g8.fl, kd := g8.kd }) (hkd : ∀ b, b < w7.heap.size → g8.kd b = gk.kd b) (k78 : KC (Own2 gk g5.ks.length φ.s) w7 w8) :
    w8.cell? ⟨g.cb, 2, none⟩ = some (.map (some g.fm)) ∧ w8.cell? ⟨g.cb, 3, none⟩ = some (.map (some g.sm)) ∧ w8.cell? ⟨φ.b, φ.o, none⟩ = some (.string (scN s)) ∧
    ∃ w9, (Instr.mapUpdate 32 (.map (some g.fm)) (.agg #[.string (nmN m), .int .i64 (n : Nat)]) (.pointer (some ⟨ob, oo, none⟩))).run Ybaf.prog w8.drew = .ok () w9 ∧ w9.cell? ⟨g.cb, 3, none⟩ = some (.map (some g.sm)) ∧ w9.cell? ⟨φ.b, φ.o, none⟩ = some (.string (scN s)) ∧
    ∃ wu, (Instr.mapUpdate 33 (.map (some g.sm)) (.string (scN s)) (.bool true)).run Ybaf.prog w9.drew = .ok () wu ∧ wu.cell? ⟨g.cb, 5, none⟩ = some (.int .i64 (g.fs.length : Nat)) ∧ Sh wu g.cb 49 11 ∧
      Made g s m n ka r w (.returned (.tuple #[.pointer (some φ.ad), .nilIface])) (wu.setCell ⟨g.cb, 5, none⟩ (.int .i64 ((g.fs.length : Nat) + 1))) := by
  have hb := R.cat.body
  have eks5 : gk.ks = g5.ks ++ [(m, n)] := by rw [ek]
  have hj : g5.ks.length < gk.ks.length := by rw [eks5]; simp
  have ecb : g8.cb = g.cb := by rw [e8]; exact xk.cb.trans R.ext.cb
  have efm : g8.fm = g.fm := by rw [e8]; exact xk.fm.trans R.ext.fm
  have esm : g8.sm = g.sm := by rw [e8]; exact xk.sm.trans R.ext.sm
  have eks : g8.ks = g.ks ++ [(m, n)] := by rw [e8]; show gk.ks = _; rw [eks5, R.ks]
  have efs : g8.fs = g.fs ++ [φ] := by rw [e8]; show gk.fs ++ [φ] = _; rw [show gk.fs = g5.fs by rw [ek], R.fs]
  have eov8 : g8.ov = gk.ov := by rw [e8]
  have no := fun {b o} (q : Own2 gk g5.ks.length φ.s b o) => Own2.no hk hj q
  have hk1 := hb.kcb
  have lk : ∀ {x : Nat}, g5.kd x ≠ 0 → x < W6.heap.size := fun hx => hb.in0 hx
  have kk : ∀ {x : Nat}, g5.kd x ≠ 0 → gk.kd x = g5.kd x := fun hx => xk.kd _ (lk hx)
  have own67 : ∀ {b o : Nat}, ((b = g5.cb ∧ o = 9) ∨ (b = ob ∧ o = oo)) → b < W6.heap.size → (g5.kd b = 1 ∧ o = 9) ∨ g5.kd b = 5 := fun q hb' => by
    rcases q with ⟨q, q2⟩ | ⟨q, _⟩
    · exact .inl ⟨by rw [q]; exact hk1, q2⟩
    · rcases hob with q3 | q3
      · exact .inr (by rw [q]; exact q3)
      · omega
  -- from W6 to w8
  have tc : ∀ (q0 : Nat) v, q0 ≠ 9 → q0 ≠ 10 → W6.cell? ⟨g5.cb, q0, none⟩ = some v → w8.cell? ⟨g5.cb, q0, none⟩ = some v := fun q0 v h9 h10 hc => by
    refine k78.cell _ _ _ (fun q => ?_) (k67.cell _ _ _ (fun q => ?_) hc)
    · exact h10 ((no q).2.2.2.2 (by rw [kk (by rw [hk1]; decide)]; exact hk1))
    · rcases own67 q hb.scb.lt with ⟨_, q2⟩ | q2
      · omega
      · omega
  have t2 := tc 2 _ (by omega) (by omega) R.cat.c2
  have t3 := tc 3 _ (by omega) (by omega) R.cat.c3
  have t5 := tc 5 _ (by omega) (by omega) R.cat.c5
  have mf := (R.cat.mf.kc k67 (fun o q => by have := hb.kfm; rcases own67 q R.cat.mf.lt with ⟨q2, _⟩ | q2 <;> omega)).kc k78 (fun o q => (no q).2.1 (by rw [kk (by rw [hb.kfm]; decide)]; exact hb.kfm))
  have ms := (R.cat.ms.kc k67 (fun o q => by have := hb.ksm; rcases own67 q R.cat.ms.lt with ⟨q2, _⟩ | q2 <;> omega)).kc k78 (fun o q => (no q).2.2.1 (by rw [kk (by rw [hb.ksm]; decide)]; exact hb.ksm))
  have f0 : w8.cell? ⟨φ.b, φ.o, none⟩ = some (.string (scN s)) := by
    have h0 := R.fn.cells 0 _ rfl
    rw [R.is.1] at h0
    have h0' : W6.cell? ⟨φ.b, φ.o, none⟩ = some (.string (scN s)) := by simpa using h0
    have k3 := R.fn.kb
    refine k78.cell _ _ _ (fun q => (no q).2.2.2.1 (by rw [kk (by rw [k3]; decide)]; exact k3)) (k67.cell _ _ _ (fun q => ?_) h0')
    rcases own67 q (lk (by rw [k3]; decide)) with ⟨q2, _⟩ | q2 <;> omega
  rw [R.ext.cb, R.ext.fm] at t2
  rw [R.ext.cb, R.ext.sm] at t3
  rw [R.ext.cb, R.fs] at t5
  rw [R.ext.sm] at ms
  rw [R.ext.fm] at mf
  have hno5 : ∀ p ∈ FK g5.ks g5.ov g5.ks.length, p.1 ≠ .agg #[.string (nmN m), .int .i64 (n : Nat)] := FK_no hb m n hm2 (fun j hj => by rw [R.ks] at hj; unfold Gh.key; rw [R.ks]; exact hno j hj)
  obtain ⟨w9, hu9, hm9, hk9, _⟩ := (show MapE w8.drew g.fm (FK g5.ks g5.ov g5.ks.length) from mf).put_new funOK Ybaf.underlying32 (FK_good _ _ _) (key := .agg #[.string (nmN m), .int .i64 (n : Nat)]) ⟨_, _, rfl⟩ hno5 (.pointer (some ⟨ob, oo, none⟩))
  have k89 : KC (fun x _ => x = g.fm) w8 w9 := ((KC.refl _ w8).drew).trans hk9
  have c1 := h8.kcb
  have c8' := h8.kfm
  have c9' := h8.ksm
  rw [ecb] at c1; rw [efm] at c8'; rw [esm] at c9'
  have n1 : g.cb ≠ g.fm := fun e => by rw [e] at c1; omega
  have n2 : g.sm ≠ g.fm := fun e => by rw [e] at c9'; omega
  have n3 : g.cb ≠ g.sm := fun e => by rw [e] at c1; omega
  have n4 : φ.b ≠ g.fm := fun e => by
    have k3 := R.fn.kb
    have hf := hb.kfm
    rw [R.ext.fm, ← e] at hf; omega
  have n5 : g.fm ≠ g.sm := fun e => n2 e.symm
  have hFK : FK g5.ks g5.ov g5.ks.length ++ [(.agg #[.string (nmN m), .int .i64 (n : Nat)], .pointer (some ⟨ob, oo, none⟩))] = FK g8.ks g8.ov g8.ks.length := by
    rw [eov8, eks, ← R.ks]
    unfold FK
    rw [show (g5.ks ++ [(m, n)]).length = g5.ks.length + 1 by simp, List.range_succ, List.map_append]
    refine congr (congrArg _ ?_) ?_
    · apply List.map_congr_left
      intro i hi
      have hi' : i < g5.ks.length := by simpa using hi
      rw [eov' i hi']
      simp [List.getElem?_append_left hi']
    · simp [eov]
  rw [hFK] at hm9
  have ms9 := ms.kc k89 (fun o q => n2 q)
  obtain ⟨wu, b3', hu, hmu, hb3, hku⟩ := SL_put ms9 s hs
  have xk8 : Ext W6 g5 g8 := xk.trans (w' := w7) ⟨by rw [e8], by rw [e8], by rw [e8], by rw [e8], by rw [e8], hkd⟩ k67.size
  have x8 : Ext w g g8 := R.ext.trans xk8 R.kc.size
  have kW8 : KC (fun b _ => g.kd b ≠ 0) w w8 := (R.kc.transNew k67 (fun b o q => by
    by_cases hx : b < w.heap.size
    · refine .inl ?_
      rw [← R.ext.kd b hx]
      have := R.kc.size
      rcases own67 q (by omega) with ⟨q2, _⟩ | q2 <;> omega
    · exact .inr (by omega))).transNew k78 (fun b o q => by
    by_cases hx : b < w.heap.size
    · refine .inl ?_
      have := R.kc.size
      rw [← R.ext.kd b hx, ← xk.kd b (by omega)]
      exact (no q).1
    · exact .inr (by omega))
  have kW9 : KC (fun b _ => g.kd b ≠ 0) w w9 := kW8.transNew k89 (fun b o q => by
    by_cases hx : b < w.heap.size
    · refine .inl ?_
      rw [← x8.kd b hx, q, c8']; decide
    · exact .inr (by omega))
  have h9 : CatB w9 g8 := h8.tops (k89.mono fun x y _ q => .inr (.inl (by rw [efm]; exact q)))
  have hend := made_end (w := w) (g := g) (b3 := b3) (wu := wu) (b3' := b3') s m n r ka φ h9 x8 efs R.is (.inr ⟨hno, eks⟩) kW9 (by rw [ecb, efm]; exact k89.cell _ _ _ (fun q => n1 q) t2) (by rw [ecb, esm]; exact k89.cell _ _ _ (fun q => n1 q) t3) ⟨_, by rw [ecb]; exact k89.cell _ _ _ (fun q => n1 q) t5⟩ (by rw [efm]; exact hm9) (by rw [esm]; exact hku) (by rw [esm]; exact hmu) hb3
  rw [ecb, efs] at hend
  have hlen : (((g.fs ++ [φ]).length : Nat) : Int) = (g.fs.length : Nat) + 1 := by simp
  rw [hlen] at hend
  exact ⟨t2, t3, f0, w9, hu9, k89.cell _ _ _ (fun q => n1 q) t3, k89.cell _ _ _ (fun q => n4 q) f0, wu, hu, hku.cell _ _ _ (fun q => n3 q) (k89.cell _ _ _ (fun q => n1 q) t5), hku.shape _ _ _ (k89.shape _ _ _ (by rw [← ecb]; exact h8.scb)), hend⟩
end Go.Proofs.YbulkzmgFmt.Sc
