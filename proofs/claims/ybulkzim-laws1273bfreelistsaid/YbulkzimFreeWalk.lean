import Derived.Test.YbulkzimChunk
import Derived.Test.YbulkzimFreeWorld
import Derived.BigQuiet
import Derived.Deep.QuietTactic
namespace Go.Proofs.Ybulkzim.Free
open Go.RowKit

/-- What holds at the head of round k. -/
def Rel (w : World) (k : Nat) (av sv : Value) (made : Nat) (wr : World) : Prop :=
  ∃ cv lv L al st, FInv wr w.heap.size cv lv av sv L.length L (top st) al st ∧ PInv made L al st ∧ made ≤ k ∧ al.length + st.length ≤ k ∧ Below w.heap.size w wr

theorem q_new (w : World) : QAt (w.alloc (.cells zqcells.toArray 34)) w.heap.size (.slice none 0 0) (.slice none 0 0) 0 [] 0 :=
  ⟨Qb.new w, ⟨[], World.ownsRow_nil _ _ _ _⟩, World.ownsRow_nil _ _ _ _⟩

theorem rel_start (w : World) : Rel w 0 (.slice none 0 0) (.slice none 0 0) 0 (w.alloc (.cells zqcells.toArray 34)) :=
  ⟨_, _, [], [], [], FInv.start (q_new w), PInv.start, Nat.le_refl _, Nat.le_refl _, (Below.refl _ _).alloc (Nat.le_refl _) _⟩

theorem toHid {p : Prop} (h : p) : Hid p := h

theorem beqI (n : Nat) : ((n : Int) == 0) = (n == 0) := by rw [Bool.eq_iff_iff]; simp

/-- What the walk asks of the queue's cells. -/
theorem qcells {w : World} {b N : Nat} {cv lv : Value} {L : List Nat} {f : Int} (q : QAt w b cv lv N (zs L) f) :
    (∃ ac cc, w.cell? ⟨b, 193, none⟩ = some (.slice ac N cc)) ∧ (∃ al cl, w.cell? ⟨b, 194, none⟩ = some (.slice al L.length cl)) ∧ w.cell? ⟨b, 195, none⟩ = some (.int .i64 f) := by
  obtain ⟨xs, oc⟩ := q.oc
  obtain ⟨ac, cc, h1⟩ := ownsRow.sl oc
  obtain ⟨al, cl, h2⟩ := ownsRow.sl q.ol
  rw [zs_len] at h2
  exact ⟨⟨ac, cc, by rw [← h1]; exact q.qb.c5⟩, ⟨al, cl, by rw [← h2]; exact q.qb.c6⟩, q.qb.c7⟩

/-- The link of chunk c: where it lies. -/
theorem qlink {w : World} {b N c : Nat} {cv lv : Value} {L : List Nat} {f : Int} (q : QAt w b cv lv N (zs L) f) (hc : c < L.length) :
    ∃ h cl, lv = .slice (some ⟨h, 0, none⟩) L.length cl ∧ b < h ∧ w.cell? ⟨b, 194, none⟩ = some (.slice (some ⟨h, 0, none⟩) L.length cl) ∧ w.cell? ⟨h, c, none⟩ = some (.int .i64 (L.getD c 0 : Nat)) := by
  obtain ⟨h, cl, e⟩ := q.form (by rw [zs_len]; omega)
  subst e
  have h1 := q.link c (by rw [zs_len]; omega)
  have h2 := (q.lge (k := h) rfl).1
  have h3 := q.qb.c6
  rw [zs_get] at h1
  rw [zs_len] at h3 ⊢
  exact ⟨h, cl, rfl, by omega, h3, h1⟩

theorem own_cap {w : World} {base : Nat} {e : TypeId} {size g n m cap : Nat} {xs : List Value} (h : w.ownsRow base e size (.slice (some ⟨g, 0, none⟩) n cap) m xs) : n ≤ cap ∧ cap ≤ 9223372036854775807 := by
  rcases h.2 with ⟨h1, _⟩ | ⟨_, _, _, h1, _, _, h2, h3, _⟩
  · cases h1
  · cases h1; unfold maxLen at h3; exact ⟨h2, by omega⟩

/-- What holds behind newChunk: it has handed out c; the law's own slices are as they were. -/
def After (w : World) (c made : Nat) (av sv : Value) (al st : List Nat) (w1 : World) : Prop :=
  ∃ cv lv L, FInv w1 w.heap.size cv lv av sv L.length L (top st) al st ∧ PInv made L (al ++ [c]) st ∧ L.length = made + 1 ∧ L.getD c 0 = 0 ∧ c < L.length ∧ Below w.heap.size w w1

theorem F_below {w wr w1 : World} {N : Nat} {cv lv av sv cv' lv' : Value} {L al st : List Nat} {f : Int} (F : FInv wr w.heap.size cv lv av sv N L f al st) (hb : Below w.heap.size w wr) (s : QStep wr w1 w.heap.size cv lv cv' lv') : Below w.heap.size w w1 :=
  hb.trans (s.below (Nat.le_refl _) F.q.qb.lt (fun k hk => by have := (F.q.cge hk).1; omega) (fun k hk => by have := (F.q.lge hk).1; omega))

/-- newChunk where the stack is not empty. -/
theorem after_reuse {w wr : World} {k made c gs n cs : Nat} {cv lv av : Value} {L al st : List Nat} (F : FInv wr w.heap.size cv lv av (.slice (some ⟨gs, 0, none⟩) (n + 1) cs) L.length L (top (st ++ [c])) al (st ++ [c])) (hn : st.length = n)
    (P : PInv made L al (st ++ [c])) (hm : made ≤ k) (hk : k ≤ 1024) (hb : Below w.heap.size w wr) :
    Calls Yba.prog 8 #[.pointer (some ⟨w.heap.size, 0, none⟩)] wr fun e w' => e = .returned (.int .i64 c) ∧ After w c made av (.slice (some ⟨gs, 0, none⟩) n cs) al st w' := by
  obtain ⟨P1, htop, hcL, hc0, hLm⟩ := P.reuse
  rw [top_snoc] at F
  have F0 := F.popS hn
  obtain ⟨h, cl, rfl, hbh, c6, ck⟩ := qlink F.q hcL
  have q : QAt wr w.heap.size cv (.slice (some ⟨h, 0, none⟩) (zs L).length cl) L.length (zs L) c := by rw [zs_len]; exact F.q
  refine (newChunk_reuse wr w.heap.size L.length c h cl cv (zs L) q hc0 (by rw [zs_len]; omega) (by rw [zs_len]; omega)).mono ?_
  rintro e w1 ⟨rfl, q1, s1⟩
  rw [zs_get, htop, zs_len] at q1
  rw [zs_len] at s1
  have q2 : QAt w1 w.heap.size cv (.slice (some ⟨h, 0, none⟩) L.length cl) (L.set c 0).length (zs (L.set c 0)) (top st) := by rw [zs_set, List.length_set]; exact q1
  exact ⟨rfl, _, _, L.set c 0, F0.step s1 q2, P1, by simpa using hLm, getD_set_same _ _ _ hcL, by simpa using hcL, F_below F hb s1⟩

/-- newChunk where the stack is empty. -/
theorem after_fresh {w wr : World} {k made : Nat} {cv lv av sv : Value} {L al : List Nat} (F : FInv wr w.heap.size cv lv av sv L.length L (top []) al [])
    (P : PInv made L al []) (hm : made ≤ k) (hk : k ≤ 1024) (hb : Below w.heap.size w wr) :
    Calls Yba.prog 8 #[.pointer (some ⟨w.heap.size, 0, none⟩)] wr fun e w' => e = .returned (.int .i64 (made + 1 : Nat)) ∧ After w (made + 1) (made + 1) av sv al [] w' := by
  have hlen := P.len
  have P1 := P.fresh
  have hM : Hid ((L.length = 0 ∧ made + 1 = 1 ∧ zs (if made = 0 then [0] else L) = [0]) ∨ (0 < L.length ∧ L.length = made + 1 ∧ zs L = zs (if made = 0 then [0] else L) ∧ (zs L).length = L.length)) := by
    by_cases h0 : made = 0
    · left; simp [h0] at hlen ⊢; exact ⟨hlen, rfl⟩
    · right; simp [h0] at hlen ⊢; exact ⟨by omega, hlen, zs_len _⟩
  have q : QAt wr w.heap.size cv lv L.length (zs L) 0 := F.q
  refine (newChunk_fresh wr w.heap.size L.length (made + 1) cv lv (zs L) _ q hM (by split at hlen <;> omega)).mono ?_
  rintro e w1 ⟨rfl, cv', lv', q1, s1⟩
  have e1 : zs (if made = 0 then [0] else L) ++ [0] = zs ((if made = 0 then [0] else L) ++ [0]) := by simp [zs]
  rw [e1] at q1
  have hl1 : ((if made = 0 then [0] else L) ++ [0]).length = made + 1 + 1 := by rw [P1.len, if_neg (by omega)]
  have hl2 : (if made = 0 then [0] else L).length = made + 1 := by simpa using hl1
  rw [← hl1] at q1
  refine ⟨rfl, _, _, _, F.step s1 q1, P1, hl1, ?_, by rw [hl1]; omega, F_below F hb s1⟩
  rw [← hl2, getD_append_at]

theorem rel_new {w w1 w2 : World} {k c made g cap : Nat} {cv lv av sv : Value} {L al st : List Nat} {o : Obj} (F : FInv w1 w.heap.size cv lv av sv L.length L (top st) al st) (P : PInv made L (al ++ [c]) st) (hm : made ≤ k + 1) (hal : al.length + st.length ≤ k)
    (hb : Below w.heap.size w w1) (gr : (w1.alloc o).grownBy w2 av.ownBlock)
    (oa : w2.ownsRow (w.heap.size + 1) 3 1 (.slice (some ⟨g, 0, none⟩) (al.length + 1) cap) (al.length + 1) (ns al ++ [.int .i64 (c : Int)])) (hat : av.ownBlock = some g ∨ g = w1.heap.size + 1) :
    Rel w (k + 1) (.slice (some ⟨g, 0, none⟩) (al.length + 1) cap) sv made w2 := by
  obtain ⟨F2, hb2⟩ := F.pushA gr oa hat
  exact ⟨_, _, L, al ++ [c], st, F2, P, hm, by simp; omega, hb.trans (hb2.mono (by omega))⟩

/-- What holds behind freeChunk(c): c is on the queue's list, not yet on the law's own. -/
def AfterF (w : World) (c made : Nat) (av sv : Value) (al st : List Nat) (w1 : World) : Prop :=
  ∃ cv lv L, FInv w1 w.heap.size cv lv av sv L.length L c al st ∧ PInv made L al (st ++ [c]) ∧ Below w.heap.size w w1

theorem after_free {w wr : World} {k made i n g ca : Nat} {cv lv sv : Value} {L al st : List Nat} (F : FInv wr w.heap.size cv lv (.slice (some ⟨g, 0, none⟩) (n + 1) ca) sv L.length L (top st) al st) (hn : al.length = n + 1) (hi : i < n + 1)
    (P : PInv made L al st) (hm : made ≤ k) (hk : k ≤ 1024) (hb : Below w.heap.size w wr) :
    Calls Yba.prog 9 #[.pointer (some ⟨w.heap.size, 0, none⟩), .int .i64 (al.getD i 0 : Nat)] (wr.setCell ⟨g, i, none⟩ (.int .i64 (al.getD n 0 : Nat))) fun e w' => e = .returned (.tuple #[]) ∧
      AfterF w (al.getD i 0) made (.slice (some ⟨g, 0, none⟩) n ca) sv (takeOut al i) st w' := by
  obtain ⟨P1, hcL, hLm⟩ := P.free (i := i) (by omega)
  obtain ⟨F1, hb1⟩ := F.takeA i hn
  obtain ⟨h, cl, rfl, hbh, c6, ck⟩ := qlink F1.q hcL
  have q : QAt (wr.setCell ⟨g, i, none⟩ (.int .i64 (al.getD n 0 : Nat))) w.heap.size cv (.slice (some ⟨h, 0, none⟩) (zs L).length cl) L.length (zs L) (top st) := by rw [zs_len]; exact F1.q
  refine (freeChunk_any _ w.heap.size L.length (al.getD i 0) h cl cv (zs L) (top st) q (by rw [zs_len]; omega) (by rw [zs_len]; omega)).mono ?_
  rintro e w1 ⟨rfl, q1, s1⟩
  rw [zs_len] at s1 q1
  have q2 : QAt w1 w.heap.size cv (.slice (some ⟨h, 0, none⟩) L.length cl) (L.set (al.getD i 0) (top st)).length (zs (L.set (al.getD i 0) (top st))) (al.getD i 0 : Nat) := by rw [zs_set, List.length_set]; exact q1
  exact ⟨rfl, _, _, _, F1.step s1 q2, P1, F_below F1 (hb.trans (hb1.mono (by omega))) s1⟩

theorem rel_free {w w1 w2 : World} {k c made g cap m : Nat} {cv lv av sv : Value} {L al st : List Nat} {o : Obj} (F : FInv w1 w.heap.size cv lv av sv L.length L c al st) (P : PInv made L al (st ++ [c])) (hm : made ≤ k) (hal : al.length + st.length + 1 ≤ k)
    (hb : Below w.heap.size w w1) (gr : (w1.alloc o).grownBy w2 sv.ownBlock) (hst : st.length = m)
    (os : w2.ownsRow (w.heap.size + 1) 3 1 (.slice (some ⟨g, 0, none⟩) (m + 1) cap) (m + 1) (ns st ++ [.int .i64 (c : Int)])) (hat : sv.ownBlock = some g ∨ g = w1.heap.size + 1) :
    Rel w (k + 1) av (.slice (some ⟨g, 0, none⟩) (m + 1) cap) made w2 := by
  subst hst
  obtain ⟨F2, hb2⟩ := F.pushS gr os hat
  refine ⟨cv, lv, L, al, st ++ [c], ?_, P, by omega, by simp; omega, hb.trans (hb2.mono (by omega))⟩
  rw [top_snoc]
  exact F2

set_option maxRecDepth 20000 in
set_option maxHeartbeats 1600000 in
theorem walk_some (bb off len cap : Nat) (Z : List Nat) (w : World) (hlen : 0 < len) (hl : len ≤ 1024) (hbb : bb < w.heap.size)
    (hc : ∀ i, i < len → w.cell? ⟨bb, off + i, none⟩ = some (.int .u8 (Z.getD i 0 : Nat))) (hz : ∀ i, Z.getD i 0 ≤ 255) :
    Calls Yba.prog 4 #[.slice (some ⟨bb, off, none⟩) len cap] w fun e w' => e = .returned (.bool true) ∧ Below w.heap.size w w' := by
  go_enter Yba.func4, Yba.ntmps4
  go_wp2_with (first
    | (refine wpList_build0 34 (run_build34 _) ?_)
    | (refine wpList_box 34 (u := .agg zqcells.toArray) rfl (run_box34 _) ?_))
  go_loopw [4, 5, 6, 21] (fun a s m i wr => ∃ k made : Nat, k ≤ len ∧ i = .int .i64 k ∧ m = .int .i64 made ∧ Rel w k a s made wr) (fun _ _ _ i _ => 1100 - (intOf i).toNat)
  case atStart => exact ⟨0, 0, by omega, rfl, rfl, rel_start w⟩
  case round =>
    obtain ⟨k, made, hk, rfl, rfl, cv, lv, L, al, st, F, P, hm, hal, hb⟩ := hrel
    obtain ⟨aa, ca, hav⟩ := ownsRow.sl F.oa
    subst hav
    by_cases hlt : k < len
    · have hcx : wr.cell? ⟨bb, off + k, none⟩ = some (.int .u8 (Z.getD k 0 : Nat)) := (hb.cell (by exact hbb)).trans (hc k hlt)
      have hzk := hz k
      generalize Z.getD k 0 = zn at *
      clear hc
      go_upto_region 10 with fail
      go_cut [32] (fun s wx => wr = wx ∧ s = .bool (zn % 2 == 0 || al.length == 0))
      case first =>
        by_cases h2 : zn % 2 = 0
        · have e1 : ((zn : Int) % 2 == 0) = true := by simp; omega
          go_wp2
          go_meet
          case rel => exact ⟨rfl, by simp [h2]⟩
        · have e1 : ((zn : Int) % 2 == 0) = false := by simp; omega
          go_wp2
          go_meet
          case rel => exact ⟨rfl, by simp [h2, beqI]⟩
      case rest =>
        obtain ⟨rfl, rfl⟩ := hcut
        have hnew : Hid ((zn % 2 == 0 || al.length == 0) = false → 0 < al.length) := by
          intro h
          simp at h
          have : al.length ≠ 0 := by simpa using h.2
          omega
        generalize (zn % 2 == 0 || al.length == 0) = B at *
        cases B with
        | true =>
          clear hcx hnew
          have hal2 : al.length ≤ 1024 := by omega
          have hst2 : st.length ≤ 1024 := by omega
          obtain ⟨s0, cs, hsv⟩ := ownsRow.sl F.os
          subst hsv
          go_upto_if 35 with fail
          go_cut [5, 6, 9] (fun s m u wx => ∃ (c made' : Nat) (st1 : List Nat) (a1 : Option Addr) (c1 : Nat), wr = wx ∧ s = .slice a1 st1.length c1 ∧ m = .int .i64 made' ∧ u = .int .i64 c ∧ made' ≤ k + 1 ∧ al.length + st1.length ≤ k ∧
            Hid (Calls Yba.prog 8 #[.pointer (some ⟨w.heap.size, 0, none⟩)] wr fun e w' => e = .returned (.int .i64 c) ∧ After w c made' (.slice aa al.length ca) (.slice a1 st1.length c1) al st1 w'))
          case first =>
            rcases List.eq_nil_or_concat st with rfl | ⟨st1, c, rfl⟩
            · have HC := after_fresh F P hm (by omega) hb
              go_wp2
              go_meet
              case rel => exact ⟨made + 1, made + 1, [], _, _, rfl, rfl, by go_num, by go_num, by omega, hal, HC⟩
            · rw [List.concat_eq_append] at *
              obtain ⟨gs, cs', hsv, _, _⟩ := F.os.form (by simp)
              cases hsv
              have hS := F.cellS st1.length (by simp)
              rw [getD_append_at] at hS
              obtain ⟨hS1, hS2, hS3⟩ := hS
              obtain ⟨hcs1, hcs2⟩ := own_cap F.os
              simp only [List.length_append, List.length_cons, List.length_nil, Nat.zero_add] at F hcs1 hal hst2
              have HC : Hid _ := after_reuse F rfl P hm (by omega) hb
              simp only [List.length_append, List.length_cons, List.length_nil, Nat.zero_add]
              go_wp2
              go_meet
              case rel => exact ⟨c, made, st1, _, _, rfl, rfl, rfl, rfl, by omega, by omega, HC⟩
          case rest =>
            obtain ⟨c, made', st1, a1, c1, rfl, rfl, rfl, rfl, hm', hal', HC⟩ := hcut
            clear F P hm hal hst2 hb
            go_wp2_with fail
            refine HC.out.mono ?_
            rintro e w1 ⟨rfl, cv1, lv1, L1, F1, P1, hL1, hg0, hcL, hb1⟩
            obtain ⟨⟨ac, cc, c5⟩, _, c7⟩ := qcells F1.q
            obtain ⟨h, cl, hlv, hbh, c6, ck⟩ := qlink F1.q hcL
            rw [hL1] at c5 c6 hcL
            rw [hg0] at ck
            have hlt1 := F1.q.qb.lt
            have HR : Hid (∀ (o : Obj) (g cap : Nat) (w2 : World), (w1.alloc o).grownBy w2 (Value.slice aa al.length ca).ownBlock →
                w2.ownsRow (w.heap.size + 1) 3 1 (.slice (some ⟨g, 0, none⟩) (al.length + 1) cap) (al.length + 1) (ns al ++ [.int .i64 (c : Int)]) → ((Value.slice aa al.length ca).ownBlock = some g ∨ g = w1.heap.size + 1) →
                Rel w (k + 1) (.slice (some ⟨g, 0, none⟩) (al.length + 1) cap) (.slice a1 st1.length c1) made' w2) := fun o g cap w2 gr oa hat => rel_new F1 P1 hm' hal' hb1 gr oa hat
            have oa1 := F1.oa
            by_cases hs1 : st1.length = 0
            · obtain rfl : st1 = [] := List.eq_nil_of_length_eq_zero hs1
              rw [top_nil] at c7
              clear hlv hg0 HC hL1 F1 P1 hs1
              go_wp2_with (at_builtin; refine wpList_append32 (w.heap.size + 1) al.length w1.heap.size _ (ns al) c (oa1.alloc _) (cell_new1 _ _ _ _ (by simp)) (by omega) (by simp; omega) (w1.heap.size + 1) (by simp) rfl rfl ?_)
              intro g cap1 w2 oa gr hat _
              have R := HR.out _ g cap1 w2 gr oa hat
              clear gr oa hat HR
              go_wp2
              go_roundw
              case rel => exact ⟨k + 1, made', by omega, by go_num, rfl, R⟩
              case measure => simp [intOf]; omega
            · obtain ⟨gs, cs', hsv, _, _⟩ := F1.os.form (by omega)
              cases hsv
              obtain ⟨hS1, hS2, hS3⟩ := F1.cellS (st1.length - 1) (by omega)
              have hpos : 0 < st1.length := by omega
              change w1.cell? ⟨gs, st1.length - 1, none⟩ = some (.int .i64 (top st1 : Nat)) at hS1
              clear hlv hg0 HC hL1 F1 P1 hs1
              generalize top st1 = tp at *
              go_wp2_with (at_builtin; refine wpList_append32 (w.heap.size + 1) al.length w1.heap.size _ (ns al) c (oa1.alloc _) (cell_new1 _ _ _ _ (by simp)) (by omega) (by simp; omega) (w1.heap.size + 1) (by simp) rfl rfl ?_)
              intro g cap1 w2 oa gr hat _
              have R := HR.out _ g cap1 w2 gr oa hat
              clear gr oa hat HR
              go_wp2
              go_roundw
              case rel => exact ⟨k + 1, made', by omega, by go_num, rfl, R⟩
              case measure => simp [intOf]; omega
        | false =>
          have hpos := hnew.out rfl
          clear hnew
          obtain ⟨n, hn⟩ : ∃ n, al.length = n + 1 := ⟨al.length - 1, by omega⟩
          obtain ⟨ga, ca', hav, _, _⟩ := F.oa.form (by omega)
          cases hav
          obtain ⟨hcs1, hcs2⟩ := own_cap F.oa
          obtain ⟨s0, cs, hsv⟩ := ownsRow.sl F.os
          subst hsv
          obtain ⟨i, hi0⟩ : ∃ i, i = zn / 2 % (n + 1) := ⟨_, rfl⟩
          have hi : i < n + 1 := by rw [hi0]; exact Nat.mod_lt _ (by omega)
          have hx : (zn : Int) / 2 % ((n : Int) + 1) = (i : Int) := by rw [hi0]; simp
          clear hi0
          rw [hn] at F hal hcs1 ⊢
          have HC := toHid (after_free F hn hi P hm (by omega) hb)
          obtain ⟨cA1, cA2, cA3⟩ := F.cellA i (by omega)
          obtain ⟨cB1, cB2, cB3⟩ := F.cellA n (by omega)
          have hto : Hid ((takeOut al i).length = n) := by show _ = _; simp [takeOut, hn]
          generalize takeOut al i = al1 at *
          generalize al.getD i 0 = c at *
          generalize al.getD n 0 = lst at *
          have hlt1 := F.q.qb.lt
          generalize hst : st.length = m at *
          have Hst : Hid (st.length = m) := hst
          clear hcx hn hpos hst F P
          go_wp2_with fail
          refine HC.out.mono ?_
          rintro e w1 ⟨rfl, cv1, lv1, L1, F1, P1, hb1⟩
          have hlt2 := F1.q.qb.lt
          have os1 := F1.os
          rw [Hst.out] at os1
          have HR : Hid (∀ (o : Obj) (g cap : Nat) (w2 : World), (w1.alloc o).grownBy w2 (Value.slice s0 m cs).ownBlock →
              w2.ownsRow (w.heap.size + 1) 3 1 (.slice (some ⟨g, 0, none⟩) (m + 1) cap) (m + 1) (ns st ++ [.int .i64 (c : Int)]) → ((Value.slice s0 m cs).ownBlock = some g ∨ g = w1.heap.size + 1) →
              Rel w (k + 1) (.slice (some ⟨ga, 0, none⟩) n ca) (.slice (some ⟨g, 0, none⟩) (m + 1) cap) made w2) := fun o g cap w2 gr oa hat =>
            rel_free F1 P1 hm (by have h1 := hto.out; have h2 := Hst.out; omega) hb1 gr Hst.out oa hat
          clear HC F1 P1 hx cA1 cA2 cA3 cB1 cB2 cB3
          go_wp2_with (at_builtin; refine wpList_append32 (w.heap.size + 1) m w1.heap.size _ (ns st) c (os1.alloc _) (cell_new1 _ _ _ _ (by simp)) (by omega) (by simp; omega) (w1.heap.size + 1) (by simp) rfl rfl ?_)
          intro g cap1 w2 oa gr hat _
          have R := HR.out _ g cap1 w2 gr oa hat
          clear gr oa hat HR
          go_wp2
          go_roundw
          case rel => exact ⟨k + 1, made, by omega, by go_num, rfl, R⟩
          case measure => simp [intOf]; omega
    · go_wp2
      go_ret
      exact ⟨rfl, hb⟩

end Go.Proofs.Ybulkzim.Free
