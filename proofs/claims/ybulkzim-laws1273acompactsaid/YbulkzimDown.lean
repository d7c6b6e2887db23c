import Derived.Test.YbulkzimDue
import Derived.RegionTactic
import Derived.BigRegion
import Derived.Deep.DeepCutAuto
import Derived.Laws.EntriesVeiled
namespace Go.Proofs.Ybulkzim.Comp
open Go.RowKit

theorem toHid {p : Prop} (h : p) : Hid p := h

/-- The cells of event x in a block of its own. -/
def ev5 (A P : Nat → Int) (x : Nat) : Array Value := #[.int .i64 (A x), .int .i64 (P x), .int .u64 (x : Int), .int .i64 (x : Int), .nilFunc]

theorem ev5_cells {w : World} {g x : Nat} {A P : Nat → Int} (h : w.heap[g]? = some (.cells (ev5 A P x) 52 (0, 0))) :
    w.cell? ⟨g, 0, none⟩ = some (.int .i64 (A x)) ∧ w.cell? ⟨g, 1, none⟩ = some (.int .i64 (P x)) ∧ w.cell? ⟨g, 2, none⟩ = some (.int .u64 (x : Int)) ∧ w.cell? ⟨g, 3, none⟩ = some (.int .i64 (x : Int)) ∧ w.cell? ⟨g, 4, none⟩ = some .nilFunc := by
  simp [World.cell?, h, ev5]

/-- What holds at the head of a round of 'down'. -/
def DownRel (w : World) (g n m k0 x : Nat) (A P : Nat → Int) (V : List Nat) (i : Nat) (wr : World) : Prop :=
  ∃ E : List Nat, Due wr g n A P E ∧ E.length = m ∧ i < m ∧ sift A P k0 i (E.set i x) ∧ List.Perm (E.set i x) V ∧ wr.heap[w.heap.size]? = some (.cells (ev5 A P x) 52 (0, 0)) ∧ Kept (fun k => k = g) w wr

theorem down_close {w wr : World} {g n m k0 x i : Nat} {A P : Nat → Int} {V E : List Nat} (hd : Due wr g n A P E) (hE : E.length = m) (hi : i < m) (hs : sift A P k0 i (E.set i x)) (hp : List.Perm (E.set i x) V) (hkp : Kept (fun k => k = g) w wr)
    (hch : ∀ j, 1 ≤ j → j < m → par j = i → bef A P (E.getD j 0) x = false) :
    ∃ V', Due (put5 wr g i A P x) g n A P V' ∧ V'.length = m ∧ List.Perm V' V ∧ heapFrom A P k0 V' ∧ Kept (fun k => k = g) w (put5 wr g i A P x) := by
  have hn := hd.1
  refine ⟨E.set i x, hd.put (by omega) x _ (by simpa using hn) (fun j hj hne => ⟨by simpa using hj, getD_set_ne _ _ _ _ (fun e => hne e.symm)⟩) (getD_set_eq _ _ _ (by omega)), by simpa using hE, hp,
    sift_end hs (getD_set_eq _ _ _ (by omega)) (fun j h1 h2 h3 => ?_), hkp.trans (put5_kept i x rfl)⟩
  have hne : i ≠ j := by unfold par at h3; omega
  rw [getD_set_ne _ _ _ _ hne]
  exact hch j h1 (by simp at h2; omega) h3

theorem down_next {w wr : World} {g n m k0 x i c : Nat} {A P : Nat → Int} {V E : List Nat} (hd : Due wr g n A P E) (hE : E.length = m) (hi : i < m) (hs : sift A P k0 i (E.set i x)) (hp : List.Perm (E.set i x) V) (hkp : Kept (fun k => k = g) w wr)
    (hew : wr.heap[w.heap.size]? = some (.cells (ev5 A P x) 52 (0, 0))) (hg : g < w.heap.size)
    (hc1 : 1 ≤ c) (hcm : c < m) (hpc : par c = i) (hsib : ∀ j, 1 ≤ j → j < m → par j = i → bef A P (E.getD j 0) (E.getD c 0) = false) (hb : bef A P (E.getD c 0) x = true) :
    DownRel w g n m k0 x A P V c (put5 wr g i A P (E.getD c 0)) := by
  have hn := hd.1
  have hic : i < c := by unfold par at hpc; omega
  have gE : ∀ j, j ≠ i → (E.set i x).getD j 0 = E.getD j 0 := fun j h => getD_set_ne _ _ _ _ (fun e => h e.symm)
  have eq : ((E.set i x).set i ((E.set i x).getD c 0)).set c x = (E.set i (E.getD c 0)).set c x := by rw [gE c (by omega), List.set_set]
  have s1 := sift_step hs hpc hc1 (by simpa using (by omega : c < E.length)) (fun j h1 h2 h3 => by
    have hne : j ≠ i := by unfold par at h3; omega
    rw [gE j hne, gE c (by omega)]; exact hsib j h1 (by simp at h2; omega) h3) (getD_set_eq _ _ _ (by omega)) (by rw [gE c (by omega)]; exact hb)
  rw [eq] at s1
  have p1 := perm_swap (E.set i x) i c (by simp; omega) (by simp; omega) (by omega)
  rw [getD_set_eq _ _ _ (show i < E.length by omega), eq] at p1
  refine ⟨E.set i (E.getD c 0), hd.put (by omega) _ _ (by simpa using hn) (fun j hj hne => ⟨by simpa using hj, getD_set_ne _ _ _ _ (fun e => hne e.symm)⟩) (getD_set_eq _ _ _ (by omega)), by simpa using hE, hcm, s1, p1.trans hp, ?_, hkp.trans (put5_kept i _ rfl)⟩
  have hk := (put5_kept (w := wr) (g := g) (A := A) (P := P) (own := fun k => k = g) i (E.getD c 0) rfl).block w.heap.size (Array.getElem?_eq_some_iff.1 hew).1 (by omega)
  exact hk.trans hew

theorem bef_irrefl {A P : Nat → Int} (x : Nat) : bef A P x x = false := (bef_false_iff x x).2 (by omega)

theorem child_pick {m i : Nat} {A P : Nat → Int} {E : List Nat} (hc : 2 * i + 1 < m) :
    ∃ c, c = (if (decide (2 * i + 2 < m) && bef A P (E.getD (2 * i + 2) 0) (E.getD (2 * i + 1) 0)) = true then 2 * i + 2 else 2 * i + 1) ∧ c < m ∧ par c = i ∧ ∀ j, 1 ≤ j → j < m → par j = i → bef A P (E.getD j 0) (E.getD c 0) = false := by
  refine ⟨_, rfl, ?_⟩
  have two : ∀ j, 1 ≤ j → par j = i → j = 2 * i + 1 ∨ j = 2 * i + 2 := fun j h1 h2 => by unfold par at h2; omega
  by_cases hB : (decide (2 * i + 2 < m) && bef A P (E.getD (2 * i + 2) 0) (E.getD (2 * i + 1) 0)) = true
  · rw [if_pos hB]
    simp only [Bool.and_eq_true, decide_eq_true_eq] at hB
    refine ⟨hB.1, by unfold par; omega, fun j h1 h2 h3 => ?_⟩
    rcases two j h1 h3 with rfl | rfl
    · exact bef_asymm hB.2
    · exact bef_irrefl _
  · rw [if_neg hB]
    refine ⟨hc, by unfold par; omega, fun j h1 h2 h3 => ?_⟩
    rcases two j h1 h3 with rfl | rfl
    · exact bef_irrefl _
    · simp [h2] at hB; exact hB

theorem before_at {w wr : World} {g n m x c : Nat} {A P : Nat → Int} {E : List Nat} (hew : wr.heap[w.heap.size]? = some (.cells (ev5 A P x) 52 (0, 0))) (hd : Due wr g n A P E) (hE : E.length = m) (hc : c < m) (nq : Nat) :
    Calls Yba.prog 7 #[.pointer (some ⟨g, c * 5, none⟩), .pointer (some ⟨w.heap.size, 0, none⟩)] (wr.drewN nq) fun e w' => e = .returned (.bool (bef A P (E.getD c 0) x)) ∧ ∃ n, w' = wr.drewN n := by
  obtain ⟨e0, e1, e2, e3, e4⟩ := ev5_cells hew
  obtain ⟨l0, l1, l2, l3, l4⟩ := hd.cells (i := c) (by omega)
  refine (before_any (wr.drewN nq) A P g _ _ 0 _ x l0 l1 l2 e0 e1 e2).mono ?_
  rintro e w' ⟨rfl, n', rfl⟩
  exact ⟨rfl, _, drewN_add _ _ _⟩

set_option maxHeartbeats 1600000 in
theorem down_any (w : World) (g n m k0 : Nat) (A P : Nat → Int) (V : List Nat) (hd : Due w g n A P V) (hV : V.length = m) (hk : k0 < m) (hm : m ≤ 1024) (hh : heapFrom A P (k0 + 1) V) :
    Calls Yba.prog 19 #[.slice (some ⟨g, 0, none⟩) m n, .int .i64 k0] w fun e w' => e = .returned (.tuple #[]) ∧ ∃ V', Due w' g n A P V' ∧ V'.length = m ∧ List.Perm V' V ∧ heapFrom A P k0 V' ∧ Kept (fun k => k = g) w w' := by
  obtain ⟨c0, c1, c2, c3, c4⟩ := hd.cells (i := k0) (by omega)
  have hg := hd.lt
  obtain ⟨x, hx⟩ : ∃ x, V.getD k0 0 = x := ⟨_, rfl⟩
  rw [hx] at c0 c1 c2 c3
  have hR : DownRel w g n m k0 x A P V k0 (w.alloc (.cells (ev5 A P x) 52)) := by
    have e : V.set k0 x = V := by
      rw [← hx]
      simp [List.getD, show k0 < V.length by omega]
    exact ⟨V, hd.alloc _, hV, hk, by rw [e]; exact sift_start hh, by rw [e], heap_alloc_new _ _, (Kept.refl _ _).alloc _⟩
  clear hx hd hV hh
  go_enter Yba.func19, Yba.ntmps19
  go_wp2_with fail
  go_loopw [1] (fun i wr => ∃ i' : Nat, i = .int .i64 i' ∧ DownRel w g n m k0 x A P V i' wr) (fun i _ => 1100 - (intOf i).toNat)
  case atStart => exact ⟨k0, rfl, hR⟩
  case round =>
    clear hR c0 c1 c2 c3 c4
    obtain ⟨i, rfl, E, hd, hE, hi, hs, hp, hew, hkp⟩ := hrel
    obtain ⟨e0, e1, e2, e3, e4⟩ := ev5_cells hew
    have hwne : w.heap.size ≠ g := by omega
    have hlt := hkp.size
    obtain ⟨q0, q1, q2, q3, q4⟩ := hd.cells (i := i) (by omega)
    have f0 := hd.frozen (i * 5)
    have f1 := hd.frozen (i * 5 + 1)
    have f2 := hd.frozen (i * 5 + 2)
    have f3 := hd.frozen (i * 5 + 3)
    have f4 := hd.frozen (i * 5 + 4)
    generalize E.getD i 0 = y at *
    by_cases hc : 2 * i + 1 < m
    · go_upto_region 4 with fail
      go_cut [34] (fun s wx => ∃ nq, wx = wr.drewN nq ∧ s = .bool (decide (2 * i + 2 < m) && bef A P (E.getD (2 * i + 2) 0) (E.getD (2 * i + 1) 0)))
      case first =>
        obtain ⟨l0, l1, l2, l3, l4⟩ := hd.cells (i := 2 * i + 1) (by omega)
        by_cases hr : 2 * i + 2 < m
        · obtain ⟨r0, r1, r2, r3, r4⟩ := hd.cells (i := 2 * i + 2) (by omega)
          have e1 : decide (2 * (i : Int) + 1 + 1 < (m : Int)) = true := by simp; omega
          have HC : Hid (∀ nq, Calls Yba.prog 7 #[.pointer (some ⟨g, (2 * i + 2) * 5, none⟩), .pointer (some ⟨g, (2 * i + 1) * 5, none⟩)] (wr.drewN nq) fun e w' => e = .returned (.bool (bef A P (E.getD (2 * i + 2) 0) (E.getD (2 * i + 1) 0))) ∧ ∃ n, w' = wr.drewN n) := by
            intro nq
            refine (before_any (wr.drewN nq) A P g _ g _ _ _ r0 r1 r2 l0 l1 l2).mono ?_
            rintro e w' ⟨rfl, n', rfl⟩
            exact ⟨rfl, _, drewN_add _ _ _⟩
          clear hd hs hp hkp hE hew
          go_quiet ((go_at_call 7; exact HC.out _))
          go_wp2
          go_meet
          case rel => exact ⟨_, rfl, by simp [hr]⟩
        · have e1 : decide (2 * (i : Int) + 1 + 1 < (m : Int)) = false := by simp; omega
          clear hd hs hp hkp hE hew
          go_quiet (fail)
          go_wp2
          go_meet
          case rel => exact ⟨_, rfl, by simp [hr]⟩
      case rest =>
        obtain ⟨nq, rfl, rfl⟩ := hcut
        have HB : Hid (∃ c, c = (if (decide (2 * i + 2 < m) && bef A P (E.getD (2 * i + 2) 0) (E.getD (2 * i + 1) 0)) = true then 2 * i + 2 else 2 * i + 1) ∧ c < m ∧ par c = i ∧ ∀ j, 1 ≤ j → j < m → par j = i → bef A P (E.getD j 0) (E.getD c 0) = false) := child_pick hc
        generalize (decide (2 * i + 2 < m) && bef A P (E.getD (2 * i + 2) 0) (E.getD (2 * i + 1) 0)) = B at *
        cases B with
        | true =>
          obtain ⟨c, hcc, hcm, hpc, hsib⟩ := HB.out
          clear HB
          rw [if_pos rfl] at hcc
          obtain ⟨l0, l1, l2, l3, l4⟩ := hd.cells (i := c) (by omega)
          have HC := before_at hew hd hE hcm
          have HC' : Hid (∀ nq, Calls Yba.prog 7 #[.pointer (some ⟨g, c * 5, none⟩), .pointer (some ⟨w.heap.size, 0, none⟩)] (wr.drewN nq) fun e w' => e = .returned (.bool (bef A P (E.getD c 0) x)) ∧ ∃ n, w' = wr.drewN n) := HC
          clear HC
          subst hcc
          by_cases hb : bef A P (E.getD (2 * i + 2) 0) x = true
          · have HN : Hid (∀ k, DownRel w g n m k0 x A P V (2 * i + 2) (put5 (wr.drewN k) g i A P (E.getD (2 * i + 2) 0))) := fun k => down_next (hd.drewN k) hE hi hs hp (hkp.drewN k) hew hg (by omega) hcm hpc hsib hb
            rw [hb] at HC'
            generalize E.getD (2 * i + 2) 0 = z at *
            clear hd hs hp hkp hE hew hsib hb
            go_wp2_with fail
            refine (HC'.out _).mono ?_
            rintro e w' ⟨rfl, n', rfl⟩
            go_wp2_with fail
            go_roundw
            case rel => exact ⟨2 * i + 2, by go_num, HN.out n'⟩
            case measure => simp [intOf]; omega
          · have HE : Hid (∀ k, ∃ V', Due (put5 (wr.drewN k) g i A P x) g n A P V' ∧ V'.length = m ∧ List.Perm V' V ∧ heapFrom A P k0 V' ∧ Kept (fun k => k = g) w (put5 (wr.drewN k) g i A P x)) := fun k =>
              down_close (hd.drewN k) hE hi hs hp (hkp.drewN k) (fun j h1 h2 h3 => bef_le_trans (by simpa using hb) (hsib j h1 h2 h3))
            rw [show bef A P (E.getD (2 * i + 2) 0) x = false by simpa using hb] at HC'
            clear hd hs hp hkp hE hew hsib hb
            go_wp2_with fail
            refine (HC'.out _).mono ?_
            rintro e w' ⟨rfl, n', rfl⟩
            go_wp2_with fail
            go_end0
            exact ⟨rfl, HE.out n'⟩
        | false =>
          obtain ⟨c, hcc, hcm, hpc, hsib⟩ := HB.out
          clear HB
          rw [if_neg (by simp)] at hcc
          obtain ⟨l0, l1, l2, l3, l4⟩ := hd.cells (i := c) (by omega)
          have HC := before_at hew hd hE hcm
          have HC' : Hid (∀ nq, Calls Yba.prog 7 #[.pointer (some ⟨g, c * 5, none⟩), .pointer (some ⟨w.heap.size, 0, none⟩)] (wr.drewN nq) fun e w' => e = .returned (.bool (bef A P (E.getD c 0) x)) ∧ ∃ n, w' = wr.drewN n) := HC
          clear HC
          subst hcc
          by_cases hb : bef A P (E.getD (2 * i + 1) 0) x = true
          · have HN : Hid (∀ k, DownRel w g n m k0 x A P V (2 * i + 1) (put5 (wr.drewN k) g i A P (E.getD (2 * i + 1) 0))) := fun k => down_next (hd.drewN k) hE hi hs hp (hkp.drewN k) hew hg (by omega) hcm hpc hsib hb
            rw [hb] at HC'
            generalize E.getD (2 * i + 1) 0 = z at *
            clear hd hs hp hkp hE hew hsib hb
            go_wp2_with fail
            refine (HC'.out _).mono ?_
            rintro e w' ⟨rfl, n', rfl⟩
            go_wp2_with fail
            go_roundw
            case rel => exact ⟨2 * i + 1, by go_num, HN.out n'⟩
            case measure => simp [intOf]; omega
          · have HE : Hid (∀ k, ∃ V', Due (put5 (wr.drewN k) g i A P x) g n A P V' ∧ V'.length = m ∧ List.Perm V' V ∧ heapFrom A P k0 V' ∧ Kept (fun k => k = g) w (put5 (wr.drewN k) g i A P x)) := fun k =>
              down_close (hd.drewN k) hE hi hs hp (hkp.drewN k) (fun j h1 h2 h3 => bef_le_trans (by simpa using hb) (hsib j h1 h2 h3))
            rw [show bef A P (E.getD (2 * i + 1) 0) x = false by simpa using hb] at HC'
            clear hd hs hp hkp hE hew hsib hb
            go_wp2_with fail
            refine (HC'.out _).mono ?_
            rintro e w' ⟨rfl, n', rfl⟩
            go_wp2_with fail
            go_end0
            exact ⟨rfl, HE.out n'⟩
    · have HE := toHid (down_close hd hE hi hs hp hkp (fun j h1 h2 h3 => by unfold par at h3; omega))
      clear hd hs hp hkp hE hew
      go_wp2_with fail
      go_end0
      exact ⟨rfl, HE.out⟩
end Go.Proofs.Ybulkzim.Comp
