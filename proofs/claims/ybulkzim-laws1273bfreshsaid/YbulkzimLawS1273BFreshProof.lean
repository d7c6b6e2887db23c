/- The proof of 'Rows.LawS1273BFreshSaid': the frame is the seat's given shell; the walk is ours. -/
import Derived.Test.YbulkzimRows
import Derived.WalkKit
import Derived.ProofKit
import Derived.OpenShut
import Derived.ShutString
import Derived.Test.YbulkzimChunk
import Derived.BigQuiet
import Derived.Deep.QuietTactic
import Derived.ChangeOld
import Derived.Below
namespace Go.Proofs.Ybulkzim.lawS1273BFresh
open Go.ChangeShapes Go.WideShapes Go.ChangeAt Go.RowKit
open Go.ChangeMaps (open_string shut_string)
set_option linter.unusedVariables false      -- a walk need not use every 'w<i>' (that an integer argument fits its kind)

theorem own : ownKnob Yba.prog.godebug = none := by kernel_rfl

theorem q_new (w : World) : QAt (w.alloc (.cells zqcells.toArray 34)) w.heap.size (.slice none 0 0) (.slice none 0 0) 0 [] 0 :=
  ⟨Qb.new w, ⟨[], World.ownsRow_nil _ _ _ _⟩, World.ownsRow_nil _ _ _ _⟩

/-- What holds at the head of round k. -/
def Rel (w : World) (k : Nat) (wr : World) : Prop :=
  ∃ cv lv N ls, QAt wr w.heap.size cv lv N ls 0 ∧ ((k = 1 ∧ N = 0 ∧ ls = []) ∨ (1 < k ∧ N = k ∧ ls.length = k)) ∧ Below w.heap.size w wr

theorem rel_step {w wr w' : World} {k N M : Nat} {cv lv cv' lv' : Value} {ls ls1 : List Int} (hk : 1 ≤ k) (q : QAt wr w.heap.size cv lv N ls 0)
    (hc : (k = 1 ∧ N = 0 ∧ ls = []) ∨ (1 < k ∧ N = k ∧ ls.length = k)) (hb : Below w.heap.size w wr)
    (hM : (N = 0 ∧ M = 1 ∧ ls1 = [0]) ∨ (0 < N ∧ N = M ∧ ls = ls1 ∧ ls.length = N)) (q' : QAt w' w.heap.size cv' lv' (M + 1) (ls1 ++ [0]) 0) (st : QStep wr w' w.heap.size cv lv cv' lv') :
    M = k ∧ Rel w (k + 1) w' := by
  have e : M = k ∧ ls1.length = k := by
    rcases hM with ⟨a, b, c⟩ | ⟨a, b, c, d⟩ <;> rcases hc with ⟨x, y, z⟩ | ⟨x, y, z⟩
    · subst c; simp; omega
    · omega
    · omega
    · subst c; omega
  refine ⟨e.1, cv', lv', M + 1, ls1 ++ [0], q', .inr ⟨by omega, by omega, by simp; omega⟩, hb.trans (st.below (Nat.le_refl _) q.qb.lt (fun k hk => ?_) (fun k hk => ?_))⟩
  · have := (q.cge hk).1; omega
  · have := (q.lge hk).1; omega

set_option maxHeartbeats 800000 in
theorem walk (a0 : Int) (w0 : (Lit.int .u16 a0).wf = true) (w : World) :
    Calls Yba.prog 5 #[.int .u16 a0] w fun e w' => e = .returned (.bool true) ∧ Below w.heap.size w w' := by
  obtain ⟨h0, h1⟩ := bounds_u16 w0
  obtain ⟨n, rfl⟩ := Int.eq_ofNat_of_zero_le h0
  clear w0
  go_enter Yba.func5, Yba.ntmps5
  go_wp2_with (first
    | (refine wpList_build0 34 (run_build34 _) ?_)
    | (refine wpList_box 34 (u := .agg zqcells.toArray) rfl (run_box34 _) ?_))
  go_loopw [5] (fun i wr => ∃ k : Nat, 1 ≤ k ∧ k ≤ n % 512 + 1 ∧ i = .int .i64 k ∧ Rel w k wr) (fun i _ => 600 - (intOf i).toNat)
  case atStart => exact ⟨1, by omega, by omega, rfl, _, _, _, _, q_new w, .inl ⟨rfl, rfl, rfl⟩, (Below.refl _ _).alloc (Nat.le_refl _) _⟩
  case round =>
    obtain ⟨k, hk1, hk2, rfl, cv, lv, N, ls, q, hc, hb⟩ := hrel
    have hN : N ≤ 3000 := by rcases hc with ⟨a, b, c⟩ | ⟨a, b, c⟩ <;> omega
    by_cases hlt : k ≤ n % 512
    · obtain ⟨ls1, hM⟩ : ∃ ls1, (N = 0 ∧ k = 1 ∧ ls1 = [0]) ∨ (0 < N ∧ N = k ∧ ls = ls1 ∧ ls.length = N) := by
        rcases hc with ⟨a, b, c⟩ | ⟨a, b, c⟩
        · exact ⟨[0], .inl ⟨b, a, rfl⟩⟩
        · exact ⟨ls, .inr ⟨by omega, b, rfl, by omega⟩⟩
      have HM : Hid ((N = 0 ∧ k = 1 ∧ ls1 = [0]) ∨ (0 < N ∧ N = k ∧ ls = ls1 ∧ ls.length = N)) := hM
      have HC : Hid ((k = 1 ∧ N = 0 ∧ ls = []) ∨ (1 < k ∧ N = k ∧ ls.length = k)) := hc
      clear hM hc
      go_wp2_with (go_at_call 8; refine (newChunk_fresh wr w.heap.size N k cv lv ls ls1 q HM hN).mono ?_; rintro e w' ⟨rfl, cv', lv', q', st⟩)
      have R := (rel_step hk1 q HC.out hb HM.out q' st).2
      go_roundw
      case rel => exact ⟨k + 1, by omega, by omega, by go_num, R⟩
      case measure => simp [intOf]; omega
    · obtain ⟨ac, cc, hcv⟩ : ∃ a c, cv = .slice a N c := by obtain ⟨xs, oc⟩ := q.oc; exact ownsRow.sl oc
      obtain ⟨al, cl, hlv⟩ : ∃ a c, lv = .slice a ls.length c := ownsRow.sl q.ol
      have hl : ls.length = N := by rcases hc with ⟨a, b, c⟩ | ⟨a, b, c⟩ <;> simp_all
      have c5 := q.qb.c5
      have c6 := q.qb.c6
      have c7 := q.qb.c7
      rw [hcv] at c5
      rw [hlv, hl] at c6
      clear hcv hlv hl
      by_cases hm : n % 512 = 0
      · have e0 : ((n : Int) % 512 == 0) = true := by simp; omega
        clear hc
        go_wp2
        go_quiet (fail)
        go_wp2
        go_ret
        exact ⟨rfl, below_drewN hb _⟩
      · have e0 : ((n : Int) % 512 == 0) = false := by simp; omega
        have e1 : ((N : Int) == (n : Int) % 512 + 1) = true := by rcases hc with ⟨a, b, c⟩ | ⟨a, b, c⟩ <;> simp <;> omega
        clear hc
        go_wp2
        go_quiet (fail)
        go_wp2
        go_ret
        exact ⟨rfl, below_drewN hb _⟩

/-! ### THE ROW's STEP: WRITTEN OUT: LEAVE IT -/
set_option maxRecDepth 100000 in
theorem lifted (os : Os) (started : os.Started) (H : Type) (enc : TypeId × Value → H) :
    ReturnsInHanded {} Yba.checked os 5 .any (Rows.lawS1273BFreshSpec.pre6 enc Yba.prog Yba.f5 Rows.lawS1273BFreshRow.domain false) (Rows.lawS1273BFreshSpec.post enc Yba.prog Yba.f5 false true false false) := by
  refine returnsInHanded_of_change (C := Yba.checked) own started (by kernel_rfl) Yba.func5
    (ChangeSpec.witness6 (enc := enc) (C := Yba.checked) false ⟨#[], #[.int .u16 0], []⟩ 8 (by kernel_rfl) (by kernel_rfl) (by kernel_rfl) (by kernel_rfl)) ?_
  intro W base args ds gs before hval0 hW hcnd _
  have hval : ∀ (j : Nat) t v, Yba.f5.params[j]? = some t → args[j]? = some v → Value.okWide Yba.prog W .any base t v := hval0
  have hW' := hW
  obtain ⟨p, q, hA0, hV, rfl, hfz, hnd⟩ := hW
  have hA : DataW.TrodAll enc Yba.prog W 0 (fun _ => true) true Yba.f5.params.toList args.toList ds p := hA0
  rw [Yba.params5] at hA hval
  obtain ⟨v0, vs0, d0, ds0, p0, q0, hargs, rfl, rfl, h0, r0⟩ := trodAll_cons hA
  obtain ⟨rfl, rfl, rfl⟩ := trodAll_nil r0
  obtain rfl : args = #[v0] := by cases args; simp_all
  obtain ⟨rfl, rfl⟩ := trodVars_none hV
  obtain ⟨a0, rfl, rfl, rfl, w0⟩ := open_int Yba.underlying63 (hval 0 63 v0 rfl rfl) h0
  clear hA0 hval0
  simp only [List.append_nil] at hW'
  refine (walk a0 w0 W).mono fun e W' ⟨he, bel⟩ => ?_
  subst he
  exact ⟨_, rfl, _, _, _, [], _, [], hW', trodAll_mk1 (shut_bool Yba.underlying4 _), (trodAll_cons_mk (shut_int Yba.underlying63 w0) trodAll_mk0), rfl, bel.frame _, fun h => by cases h⟩

theorem over : Rows.lawS1273BFreshRow.holds Yba.pinned (OpenSpec.ofChange Rows.lawS1273BFreshSpec) :=
  OpenClaim.holds_of_wide 5 Yba.f5 rfl rfl rfl rfl rfl rfl rfl ⟨rfl, rfl, rfl, rfl, rfl⟩ rfl rfl rfl rfl rfl (by kernel_rfl) Yba.func5 (by kernel_rfl)
    (of_decide_eq_true (by kernel_rfl)) (by unfold Func.isWrapper; first | (rw [if_pos (by decide +kernel)]; kernel_rfl) | (rw [if_neg (by decide +kernel)]; exact ⟨rfl, rfl⟩))
    (fun os started H enc _ => lifted os started H enc)

/-- ████ THE STATEMENT ████ -/
theorem proved : Rows.LawS1273BFreshSaid :=
  over
end Go.Proofs.Ybulkzim.lawS1273BFresh
