import Derived.Test.YbulkzimLawTwo
namespace Go.Proofs.Ybulkzim.Comp
open Go.RowKit

theorem heap_at (w : World) (o : Obj) (n : Nat) (hn : n = w.heap.size) : (w.alloc o).heap[n]? = some o := by
  subst hn; exact heap_alloc_new w o

theorem shr_bit' (p : Nat → Bool) (i : Nat) : bits .and .u64 (((word p (i / 64) : Nat) : Int) / 2 ^ (i % 64)) 1 = if p i then 1 else 0 := by
  rw [show ((word p (i / 64) : Nat) : Int) / 2 ^ (i % 64) = ((word p (i / 64) / 2 ^ (i % 64) : Nat) : Int) by simp]
  exact shr_bit p i

/-- The event and its place, laid and appended. -/
theorem l1_append {w wr : World} {b gi gh gk g n W i : Nat} {A P : Nat → Int} {K : Nat → Bool} (L : L1 w b gi gh gk g n W A P K i i i wr) (hlt : i < n) :
    ∃ w3, (∀ ty : TypeId, (Builtin.append_ #[27, 27] ty #[.slice (some ⟨g, 0, none⟩) i n, .slice (some ⟨wr.heap.size + 1, 0, none⟩) 1 1]).run Yba.prog ((wr.alloc (.cells #[.int .i64 (A i), .int .i8 (P i), .bool (K i)] 46)).alloc (.cells #[.int .i64 (A i), .int .i64 (P i), .int .u64 (i : Int), .int .i64 (i : Int), .nilFunc] 52)) =
      .ok (.slice (some ⟨g, 0, none⟩) (i + 1) n) w3) ∧ L1 w b gi gh gk g n W A P K (i + 1) i i w3 ∧ w3.cell? ⟨wr.heap.size, 2, none⟩ = some (.bool (K i)) := by
  have L2 := (L.alloc (.cells #[.int .i64 (A i), .int .i8 (P i), .bool (K i)] 46)).alloc (.cells #[.int .i64 (A i), .int .i64 (P i), .int .u64 (i : Int), .int .i64 (i : Int), .nilFunc] 52)
  obtain ⟨w3, hrun, hd3, hk3⟩ := append_due _ g n i (wr.heap.size + 1) i A P (List.range i) L2.due (by simp) hlt (heap_at _ _ _ (by simp))
  refine ⟨w3, hrun, L2.append hd3 hk3, ?_⟩
  have hg := L.due.lt
  have e : w3.heap[wr.heap.size]? = some (.cells #[.int .i64 (A i), .int .i8 (P i), .bool (K i)] 46) := by
    rw [hk3.block wr.heap.size (by simp; omega) (by omega), Below.heap_alloc _ _ _ (by simp)]
    exact heap_alloc_new _ _
  simp [World.cell?, e]

theorem kept_dead_no {K : Nat → Bool} {i dd : Nat} (h : dd + (kept K i).length = i) (hK : K i = false) : dd + (kept K (i + 1)).length = i + 1 := by rw [kept_yes hK]; simp; omega
theorem kept_dead_yes {K : Nat → Bool} {i dd : Nat} (h : dd + (kept K i).length = i) (hK : K i = true) : dd + 1 + (kept K (i + 1)).length = i + 1 := by rw [kept_no hK]; omega

set_option maxRecDepth 40000 in
set_option maxHeartbeats 4000000 in
theorem law_any (w : World) (a0 : Option Addr) (eb eo n cap : Nat) (A P : Nat → Int) (K : Nat → Bool) (ha : 0 < n → a0 = some ⟨eb, eo, none⟩) (heb0 : 0 < n → eb < w.heap.size) (hn : n ≤ 1024)
    (hA : ∀ i, i < n → w.cell? ⟨eb, eo + i * 3, none⟩ = some (.int .i64 (A i))) (hP : ∀ i, i < n → w.cell? ⟨eb, eo + i * 3 + 1, none⟩ = some (.int .i8 (P i))) (hK : ∀ i, i < n → w.cell? ⟨eb, eo + i * 3 + 2, none⟩ = some (.bool (K i)))
    (hPb : ∀ i, i < n → -128 ≤ P i ∧ P i ≤ 127) :
    Calls Yba.prog 3 #[.slice a0 n cap] w fun e w' => e = .returned (.bool true) ∧ Below w.heap.size w w' := by
  have Ha := toHid ha
  have Heb := toHid heb0
  clear ha heb0
  have hm1 := run_make_row' (P := Yba.prog) 35 25 (.int .u64 0) 8 Yba.underlying35 Yba.info25 rfl .i64 .i64 n (by omega) (by omega)
  have hm2 := run_make_row' (P := Yba.prog) 35 25 (.int .u64 0) 8 Yba.underlying35 Yba.info25 rfl .i64 .i64 ((n + 63) / 64) (by omega) (by omega)
  have hm3 := run_make27 n hn
  have hW : ((n : Int) + 63) / 64 = (((n + 63) / 64 : Nat) : Int) := by omega
  obtain ⟨W, hW0⟩ : ∃ W, (n + 63) / 64 = W := ⟨_, rfl⟩
  rw [hW0] at hm2 hW
  have hWb : W ≤ 1024 := by omega
  have HWW : Hid (W = (n + 63) / 64) := hW0.symm
  clear hW0
  have z1 := zs199
  have z2 := zs200
  have z3 := zs201
  go_enter Yba.func3, Yba.ntmps3
  go_upto_region 6 with (first
    | (refine wpList_build0 43 (run_build43 _) ?_)
    | (refine wpList_box 43 (u := .agg zscells.toArray) rfl (run_box43 _) ?_))
  go_wp2_with fail
  clear z1 z2 z3 hm1 hm2 hm3 hW
  go_loopw [6, 7, 8] (fun d m i wr => ∃ k dd : Nat, k ≤ n ∧ i = .int .i64 k ∧ m = .int .i64 dd ∧ dd + (kept K k).length = k ∧ d = .slice (some ⟨w.heap.size + 1 + 1 + 1 + 1, 0, none⟩) k n ∧
      L1 w w.heap.size (w.heap.size + 1) (w.heap.size + 1 + 1) (w.heap.size + 1 + 1 + 1) (w.heap.size + 1 + 1 + 1 + 1) n W A P K k k k wr) (fun _ _ i _ => 1100 - (intOf i).toNat)
  case atStart => exact ⟨0, 0, by omega, rfl, rfl, rfl, rfl, l1_start w n W A P K⟩
  case round =>
    obtain ⟨i, dd, hi, rfl, rfl, hdd, rfl, L⟩ := hrel
    generalize w.heap.size + 1 + 1 + 1 + 1 = g at *
    generalize w.heap.size + 1 + 1 + 1 = gk at *
    generalize w.heap.size + 1 + 1 = gh at *
    generalize w.heap.size + 1 = gi at *
    by_cases hlt : i < n
    · obtain rfl := Ha.out (by omega)
      have heb := Heb.out (by omega)
      have b0 := (L.bel.cell (p := ⟨eb, eo + i * 3, none⟩) heb).trans (hA i hlt)
      have a1 := (L.bel.cell (p := ⟨eb, eo + i * 3 + 1, none⟩) heb).trans (hP i hlt)
      have a2 := (L.bel.cell (p := ⟨eb, eo + i * 3 + 2, none⟩) heb).trans (hK i hlt)
      have hpb := hPb i hlt
      clear hA hP hK hPb
      have hebr : eb < wr.heap.size := Nat.lt_of_lt_of_le heb L.bel.size
      obtain ⟨w3, hrun, L3, ek⟩ := l1_append L hlt
      have Hrun := toHid hrun
      have lo := L.lo
      have hgr := L.due.lt
      have k199 := L3.rs.cell (i := 199) (by omega)
      have k200 := L3.rs.cell (i := 200) (by omega)
      have k201 := L3.rs.cell (i := 201) (by omega)
      simp only [simF, sOne, reduceIte, Nat.reduceEqDiff] at k199 k200 k201
      obtain ⟨fi, ri⟩ := L3.ri
      have ci := ri.cell hlt
      have fri := ri.frozen i
      have hiW : i / 64 < W := by have := HWW.out; omega
      have ch := L3.rh.cell hiW
      have frh := L3.rh.frozen (i / 64)
      have ck := L3.rk.cell hiW
      have frk := L3.rk.frozen (i / 64)
      unfold wf at ch ck
      have h1 : (0 : Int) ≤ (i : Int) / 64 := by omega
      have h2 : (i : Int) / 64 < (W : Int) := by omega
      have h3 : ((i : Int) / 64).toNat = i / 64 := by omega
      have r1 := i64_and63 i (by omega)
      have ht : i % 64 ≤ 63 := by omega
      have HO := or_bit (fun j => decide (j < i)) i
      rw [← wrap_pow _ ht] at HO
      have LH := (L3.ids i (.int .u64 (i : Int))).held
      clear hrun L ri
      cases hKi : K i with
      | false =>
        have LF := toHid (LH.spared hKi).drew
        have HD : Hid (dd + (kept K (i + 1)).length = i + 1) := kept_dead_no hdd hKi
        rw [hKi] at ek a2 Hrun
        clear L3 LH hdd hKi ck frk
        generalize word (fun j => decide (j < i)) (i / 64) = hw at *
        generalize word (put (fun j => decide (j < i)) i) (i / 64) = hw' at *
        generalize i % 64 = t at *
        go_wp2_with (at_builtin; refine wpList_append2 27 (u := .slice (some ⟨g, 0, none⟩) i n) (v := .slice (some ⟨wr.heap.size + 1, 0, none⟩) 1 1) rfl rfl (Hrun.out _) ?_)
        go_region
        go_wp2_with fail
        go_roundw
        case rel => exact ⟨i + 1, dd, by omega, by go_num, rfl, HD.out, rfl, LF.out⟩
        case measure => simp [intOf]; omega
      | true =>
        have HK := or_bit (fun j => decide (j < i) && K j) i
        rw [← wrap_pow _ ht] at HK
        have LF := toHid (LH.killed hKi).drew.drew
        have HD : Hid (dd + 1 + (kept K (i + 1)).length = i + 1) := kept_dead_yes hdd hKi
        have hddi : dd ≤ i := by omega
        rw [hKi] at ek a2 Hrun
        clear L3 LH hdd hKi
        generalize word (fun j => decide (j < i)) (i / 64) = hw at *
        generalize word (put (fun j => decide (j < i)) i) (i / 64) = hw' at *
        generalize word (fun j => decide (j < i) && K j) (i / 64) = kw at *
        generalize word (put (fun j => decide (j < i) && K j) i) (i / 64) = kw' at *
        generalize i % 64 = t at *
        go_wp2_with (at_builtin; refine wpList_append2 27 (u := .slice (some ⟨g, 0, none⟩) i n) (v := .slice (some ⟨wr.heap.size + 1, 0, none⟩) 1 1) rfl rfl (Hrun.out _) ?_)
        go_region
        go_wp2_with fail
        go_region
        go_wp2_with fail
        go_roundw
        case rel => exact ⟨i + 1, dd + 1, by omega, by go_num, by go_num, HD.out, rfl, LF.out⟩
        case measure => simp [intOf]; omega
    · obtain rfl : i = n := by omega
      obtain ⟨C, hC⟩ : ∃ C, (kept K i).length = C := ⟨_, rfl⟩
      have HC := toHid (comp_call (dd := dd) L hn HWW.out hC)
      rw [hC] at hdd
      have hCC : (i : Int) - (dd : Int) = (C : Int) := by omega
      have hCn : C ≤ i := by omega
      have k202 := L.rs.cell (i := 202) (by omega)
      have k4 := L.rs.cell (i := 4) (by omega)
      have k198 := L.rs.cell (i := 198) (by omega)
      have k204 := L.rs.cell (i := 204) (by omega)
      have f202 := L.rs.frozen 202
      have f4 := L.rs.frozen 4
      have f198 := L.rs.frozen 198
      have f204 := L.rs.frozen 204
      clear L hC hi hlt
      have HA := toHid hA
      have HP := toHid hP
      have HK := toHid hK
      have HPb := toHid hPb
      have Hdd := toHid hdd
      clear hA hP hK hPb hdd
      go_wp2_with fail
      refine HC.out.mono ?_
      rintro e w1 ⟨rfl, V, L⟩
      clear HC k202 k4 k198 k204 f202 f4 f198 f204
      have k3 : w1.cell? ⟨w.heap.size, 3, none⟩ = some (.bool false) := by rw [L.rs.cell (by omega), simF_3]
      have k4 := L.rs.cell (i := 4) (by omega)
      have k198 := L.rs.cell (i := 198) (by omega)
      have k202 := L.rs.cell (i := 202) (by omega)
      have k204 := L.rs.cell (i := 204) (by omega)
      simp only [simF, sTwo, reduceIte, Nat.reduceEqDiff] at k4 k198 k202 k204
      have hmk := run_make_row' (P := Yba.prog) 54 4 (.bool false) 1 Yba.underlying54 Yba.info4 rfl .i64 .i64 i (by omega) (by omega)
      have hgs := L.due.lt
      have R0 : (w1.alloc (.cells (madeCells #[.bool false] i) 4)).rowIs w1.heap.size 4 i (seenF V 0) := by
        have := World.rowIs_made w1 (.bool false) i 4
        rw [seen_start V] at this
        exact this
      have HL := toHid (And.intro (L.alloc (.cells (madeCells #[.bool false] i) 4)) R0)
      clear L R0
      go_wp2_with fail
      clear k3 k4 k198 k202 k204 hmk
      generalize w1.heap.size = gs at *
      go_loopw [12] (fun j wr => ∃ k : Nat, k ≤ C ∧ j = .int .i64 k ∧ L2 w w.heap.size gi gh gk g i W A P K C V wr ∧ wr.rowIs gs 4 i (seenF V k)) (fun j _ => 1100 - (intOf j).toNat)
      case atStart => exact ⟨0, by omega, rfl, HL.out⟩
      case round =>
        clear HL
        obtain ⟨k, hk, rfl, L, R⟩ := hrel
        by_cases hlt : k < C
        · obtain ⟨hx1, hx2, hx3⟩ := L.place hlt
          have hVl := L.len
          obtain ⟨c0, c1, c2, c3, c4⟩ := L.due.cells (i := k) (by omega)
          have sc := R.cell hx1
          have sf := R.frozen (V.getD k 0)
          have e0 : seenF V k (V.getD k 0) = .bool false := by simp only [seenF, hx3, decide_false]
          rw [e0] at sc
          obtain rfl := Ha.out (by omega)
          have heb := Heb.out (by omega)
          have b0 := (L.bel.cell (p := ⟨eb, eo + V.getD k 0 * 3, none⟩) heb).trans (HA.out _ hx1)
          have a1 := (L.bel.cell (p := ⟨eb, eo + V.getD k 0 * 3 + 1, none⟩) heb).trans (HP.out _ hx1)
          have a2 := (L.bel.cell (p := ⟨eb, eo + V.getD k 0 * 3 + 2, none⟩) heb).trans (HK.out _ hx1)
          rw [hx2] at a2
          have hpb := HPb.out _ hx1
          have k4 := L.rs.cell (i := 4) (by omega)
          simp only [simF, sTwo, reduceIte] at k4
          have lo := L.lo
          have hgw := R.lt
          have HN : Hid (∀ m o, L2 w w.heap.size gi gh gk g i W A P K C V (((wr.setCell ⟨gs, V.getD k 0, none⟩ (.bool true)).alloc o).drewN m) ∧ (((wr.setCell ⟨gs, V.getD k 0, none⟩ (.bool true)).alloc o).drewN m).rowIs gs 4 i (seenF V (k + 1))) := by
            intro m o
            have r := R.set (V.getD k 0) (.bool true)
            rw [seen_next (by omega)] at r
            exact ⟨((L.seen hgs _ _).alloc o).drewN m, r.alloc o⟩
          have hebr : eb < wr.heap.size := Nat.lt_of_lt_of_le heb L.bel.size
          by_cases h0 : k = 0
          · subst h0
            generalize V.getD 0 0 = x at *
            clear L R hx3 e0 hVl
            go_wp2_with fail
            go_quiet (fail)
            go_wp2_with fail
            go_roundw
            case rel => exact ⟨1, by omega, rfl, HN.out nq _⟩
            case measure => simp [intOf]
          · have HC : Hid (∀ m, Calls Yba.prog 7 #[.pointer (some ⟨wr.heap.size, 0, none⟩), .pointer (some ⟨g, (k - 1) / 2 * 5, none⟩)] (((wr.setCell ⟨gs, V.getD k 0, none⟩ (.bool true)).alloc (.cells (ev5 A P (V.getD k 0)) 52)).drewN m) fun e w' =>
                e = .returned (.bool false) ∧ ∃ m', w' = ((wr.setCell ⟨gs, V.getD k 0, none⟩ (.bool true)).alloc (.cells (ev5 A P (V.getD k 0)) 52)).drewN m') := by
              intro m
              obtain ⟨y0, y1, y2, _, _⟩ := ((L.seen hgs (V.getD k 0) (.bool true)).alloc (.cells (ev5 A P (V.getD k 0)) 52)).due.cells (i := (k - 1) / 2) (by omega)
              obtain ⟨z0, z1, z2, _, _⟩ := ev5_cells (w := (wr.setCell ⟨gs, V.getD k 0, none⟩ (.bool true)).alloc (.cells (ev5 A P (V.getD k 0)) 52)) (g := wr.heap.size) (x := V.getD k 0) (A := A) (P := P) (heap_at _ _ _ (by simp))
              refine (before_any (((wr.setCell ⟨gs, V.getD k 0, none⟩ (.bool true)).alloc (.cells (ev5 A P (V.getD k 0)) 52)).drewN m) A P wr.heap.size 0 g _ _ _ z0 z1 z2 y0 y1 y2).mono ?_
              rintro e w' ⟨rfl, m', rfl⟩
              exact ⟨by rw [L.order hlt (by omega)], _, drewN_add _ _ _⟩
            have hbw := L.rs.lt
            have hgw2 := L.due.lt
            generalize V.getD k 0 = x at *
            unfold ev5 at HC
            clear L R hx3 e0 hVl
            go_wp2_with fail
            go_quiet (fail)
            go_wp2_with fail
            refine (HC.out _).mono ?_
            rintro e w' ⟨rfl, m', rfl⟩
            go_wp2_with fail
            go_roundw
            case rel => exact ⟨k + 1, by omega, by go_num, HN.out m' _⟩
            case measure => simp [intOf]; omega
        · clear R hgs
          have k200 := L.rs.cell (i := 200) (by omega)
          have k201 := L.rs.cell (i := 201) (by omega)
          simp only [simF, sTwo, reduceIte, Nat.reduceEqDiff] at k200 k201
          go_wp2_with fail
          clear hk hlt
          go_loop [15] (fun j => ∃ k : Nat, k ≤ i ∧ j = .int .i64 k) (fun j => 1100 - (intOf j).toNat)
          case atStart => exact ⟨0, by omega, rfl⟩
          case round =>
            obtain ⟨k, hk, rfl⟩ := hrel
            by_cases hlt : k < i
            · obtain rfl := Ha.out (by omega)
              have heb := Heb.out (by omega)
              have a2 := (L.bel.cell (p := ⟨eb, eo + k * 3 + 2, none⟩) heb).trans (HK.out _ hlt)
              have hiW : k / 64 < W := by have := HWW.out; omega
              have ch := L.rh.cell hiW
              have ck := L.rk.cell hiW
              unfold wf at ch ck
              have h1 : (0 : Int) ≤ (k : Int) / 64 := by omega
              have h2 : (k : Int) / 64 < (W : Int) := by omega
              have h3 : ((k : Int) / 64).toNat = k / 64 := by omega
              have r1 := i64_and63 k (by omega)
              have ht : k % 64 ≤ 63 := by omega
              have s1 := shr_bit' (off (fun j => decide (j < i)) K i) k
              have s2 := shr_bit' (off (fun j => decide (j < i) && K j) K i) k
              have o1 : off (fun j => decide (j < i)) K i k = !K k := by simp [off, hlt]
              have o2 : off (fun j => decide (j < i) && K j) K i k = false := by simp [off, hlt]
              rw [o1] at s1
              rw [o2] at s2
              simp only [Bool.false_eq_true, if_false] at s2
              clear L o1 o2
              generalize word (off (fun j => decide (j < i)) K i) (k / 64) = hw at *
              generalize word (off (fun j => decide (j < i) && K j) K i) (k / 64) = kw at *
              generalize k % 64 = t at *
              cases hKk : K k with
              | false =>
                rw [hKk] at a2 s1
                simp only [Bool.not_false, if_true] at s1
                clear hKk
                go_wp2_with fail
                go_round
                case rel => exact ⟨k + 1, by omega, by go_num⟩
                case measure => simp [intOf]; omega
              | true =>
                rw [hKk] at a2 s1
                simp only [Bool.not_true, Bool.false_eq_true, if_false] at s1
                clear hKk
                go_wp2_with fail
                go_round
                case rel => exact ⟨k + 1, by omega, by go_num⟩
                case measure => simp [intOf]; omega
            · go_wp2_with fail
              go_ret
              exact ⟨rfl, L.bel⟩
end Go.Proofs.Ybulkzim.Comp
