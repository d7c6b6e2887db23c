/- The proof of 'Rows.LawS1273ACompactSaid': the frame is the seat's own shell for a neighbour, turned to this row; the walk is ours. -/
import Derived.Test.YbulkzimRows
import Derived.WalkKit
import Derived.ProofKit
import Derived.OpenShut
import Derived.ShutString
import Derived.ChangeOld
import Derived.Below
import Derived.Deep.Strs
import Derived.Test.YbulkzimLawWalk
namespace Go.Proofs.Ybulkzim.lawS1273ACompact
open Go.ChangeShapes Go.WideShapes Go.ChangeAt Go.RowKit
open Go.ChangeMaps (open_string shut_string)
set_option linter.unusedVariables false

theorem own : ownKnob Yba.prog.godebug = none := by kernel_rfl
theorem laidOut : laidOutB Yba.prog = true := by kernel_rfl

theorem cells46 : Yba.prog.cellsOf 46 = 3 := by kernel_rfl
theorem cells2 : Yba.prog.cellsOf 2 = 1 := by kernel_rfl
theorem cells44 : Yba.prog.cellsOf 44 = 1 := by kernel_rfl
theorem cells4 : Yba.prog.cellsOf 4 = 1 := by kernel_rfl

/-- What the walk is told of the slice of events that came in. -/
def IsEvs (w : World) (a : Option Addr) (len : Nat) (A P : Nat → Int) (K : Nat → Bool) : Prop :=
  len ≤ 9223372036854775807 ∧ (0 < len → ∃ eb eo, a = some ⟨eb, eo, none⟩ ∧ eb < w.heap.size ∧ ∀ i, i < len → w.cell? ⟨eb, eo + i * 3, none⟩ = some (.int .i64 (A i)) ∧ w.cell? ⟨eb, eo + i * 3 + 1, none⟩ = some (.int .i8 (P i)) ∧
    w.cell? ⟨eb, eo + i * 3 + 2, none⟩ = some (.bool (K i)) ∧ -128 ≤ P i ∧ P i ≤ 127)

set_option maxRecDepth 40000 in
set_option maxHeartbeats 400000 in
theorem walk_long (a0 : Option Addr) (len0 cap0 : Nat) (w : World) (h : 1024 < len0) (h2 : len0 ≤ 9223372036854775807) :
    Calls Yba.prog 3 #[.slice a0 len0 cap0] w fun e w' => e = .returned (.bool true) ∧ Below w.heap.size w w' := by
  go_enter Yba.func3, Yba.ntmps3
  go_wp2
  go_ret
  exact ⟨rfl, Below.refl _ _⟩

theorem walk (a0 : Option Addr) (len0 cap0 : Nat) (A P : Nat → Int) (K : Nat → Bool) (w : World) (w0 : IsEvs w a0 len0 A P K) :
    Calls Yba.prog 3 #[.slice a0 len0 cap0] w fun e w' => e = .returned (.bool true) ∧ Below w.heap.size w w' := by
  obtain ⟨hm, hc⟩ := w0
  by_cases h1 : 1024 < len0
  · exact walk_long _ _ _ _ h1 hm
  · by_cases h0 : len0 = 0
    · subst h0
      exact Comp.law_any w a0 0 0 0 cap0 A P K (fun h => absurd h (by omega)) (fun h => absurd h (by omega)) (by omega) (fun i h => absurd h (by omega)) (fun i h => absurd h (by omega)) (fun i h => absurd h (by omega)) (fun i h => absurd h (by omega))
    · obtain ⟨eb, eo, rfl, hlt, hcell⟩ := hc (by omega)
      exact Comp.law_any w _ eb eo len0 cap0 A P K (fun _ => rfl) (fun _ => hlt) (by omega) (fun i h => (hcell i h).1) (fun i h => (hcell i h).2.1) (fun i h => (hcell i h).2.2.1) (fun i h => (hcell i h).2.2.2)

theorem bounds_i8' {n : Int} (h : (Lit.int .i8 n).wf = true) : -128 ≤ n ∧ n ≤ 127 := by
  simp [Lit.wf, IntKind.min, IntKind.max, IntKind.signed, IntKind.bits] at h
  omega

theorem add3 (x : Addr) (b o : Nat) (i j : Nat) (hx : x = ⟨b, o, none⟩) : (x.add (i * 3)).add j = ⟨b, o + i * 3 + j, none⟩ := by
  subst hx
  rw [Deep.add_add, Addr.add_lit, Nat.add_assoc]

theorem opened {H : Type} {enc : TypeId × Value → H} {w : World} {base fuel : Nat} {spare : Nat → Bool} {held : Bool} {a0 : Option Addr} {len0 cap0 : Nat} {x : DataW H × List MemPlace}
    (hf : DataW.trod enc Yba.prog w base spare held fuel 22 [.slice a0 len0 cap0] = some x) : ∃ A P K, IsEvs w a0 len0 A P K := by
  rcases Deep.open_slice Yba.underlying22 hf with ⟨hcs, _⟩ | ⟨a, len, cap, m, n, D, Pl, hcs, hb, hl, hm, hmm, _, hx⟩
  · simp at hcs
    obtain ⟨rfl, rfl, rfl⟩ := hcs
    exact ⟨fun _ => 0, fun _ => 0, fun _ => false, by omega, fun h => absurd h (by omega)⟩
  · simp at hcs
    obtain ⟨rfl, rfl, rfl⟩ := hcs
    rw [cells46] at hx
    have hlm : len0 ≤ m := by rw [hmm]; split <;> omega
    have each : ∀ i, i < len0 → ∃ q : Int × Int × Bool, w.cell? (a.add (i * 3)) = some (.int .i64 q.1) ∧ w.cell? ((a.add (i * 3)).add 1) = some (.int .i8 q.2.1) ∧ w.cell? ((a.add (i * 3)).add 2) = some (.bool q.2.2) ∧ -128 ≤ q.2.1 ∧ q.2.1 ≤ 127 := by
      intro i hi
      obtain ⟨cs', h1, h2⟩ := hx i (by omega)
      obtain ⟨_, hlen, hcell⟩ := World.cells?_some h1
      obtain ⟨y0, y1, y2, k, _, _, t0, t1, t2⟩ := Deep.trod_struct3 Yba.underlying46 h2
      match cs', hlen with
      | [v0, v1, v2], _ =>
        simp only [cells2, cells44, cells4] at t0 t1 t2
        obtain ⟨p0, e0, _, _⟩ := DataW.trod_int Yba.underlying2 t0
        obtain ⟨p1, e1, _, w1⟩ := DataW.trod_int Yba.underlying44 t1
        obtain ⟨p2, e2, _⟩ := DataW.trod_bool Yba.underlying4 t2
        simp at e0 e1 e2
        subst e0 e1 e2
        have g0 := hcell 0 (by omega)
        have g1 := hcell 1 (by omega)
        have g2 := hcell 2 (by omega)
        exact ⟨(p0, p1, p2), by simpa [Addr.add] using g0, by simpa using g1, by simpa using g2, bounds_i8' w1⟩
    obtain ⟨q, hq⟩ := Deep.choose_lt each
    unfold maxLen at hm
    refine ⟨fun i => (q i).1, fun i => (q i).2.1, fun i => (q i).2.2, by omega, fun h0 => ?_⟩
    obtain ⟨b, off, spot⟩ := a
    have hspot : spot = none := by simpa [Addr.add] using World.cell?_spot (hq 0 h0).1
    subst hspot
    refine ⟨b, off, rfl, World.block_lt_of_cell? w _ (hq 0 h0).1, fun i hi => ?_⟩
    obtain ⟨h1, h2, h3, h4⟩ := hq i hi
    rw [add3 _ b off i 1 rfl] at h2
    rw [add3 _ b off i 2 rfl] at h3
    rw [Addr.add_lit] at h1
    exact ⟨h1, h2, h3, h4⟩

/-! ### THE ROW's STEP: WRITTEN OUT: LEAVE IT -/
set_option maxRecDepth 100000 in
theorem lifted (os : Os) (started : os.Started) (H : Type) (enc : TypeId × Value → H) :
    ReturnsInHanded {} Yba.checked os 3 .any (Rows.lawS1273ACompactSpec.pre6 enc Yba.prog Yba.f3 Rows.lawS1273ACompactRow.domain false) (Rows.lawS1273ACompactSpec.post enc Yba.prog Yba.f3 false true false false) := by
  refine returnsInHanded_of_change (C := Yba.checked) own started (by kernel_rfl) Yba.func3
    (ChangeSpec.witness6 (enc := enc) (C := Yba.checked) false ⟨#[], #[.slice none 0 0], []⟩ 8 (by kernel_rfl) (by kernel_rfl) (by kernel_rfl) (by kernel_rfl)) ?_
  intro W base args ds gs before hval0 hW hcnd _
  have hval : ∀ (j : Nat) t v, Yba.f3.params[j]? = some t → args[j]? = some v → Value.okWide Yba.prog W .any base t v := hval0
  have hW' := hW
  obtain ⟨p, q, hA0, hV, rfl, hfz, hnd⟩ := hW
  have hA : DataW.TrodAll enc Yba.prog W 0 (fun _ => true) true Yba.f3.params.toList args.toList ds p := hA0
  rw [Yba.params3] at hA hval
  obtain ⟨v0, vs0, d0, ds0, p0, q0, hargs, rfl, rfl, h0, r0⟩ := trodAll_cons hA
  obtain ⟨rfl, rfl, rfl⟩ := trodAll_nil r0
  obtain rfl : args = #[v0] := by cases args; simp_all
  obtain ⟨rfl, rfl⟩ := trodVars_none hV
  obtain ⟨a0, len0, cap0, rfl⟩ := okWide_slice Yba.underlying22 (hval 0 22 v0 rfl rfl)
  have k0 := h0
  have lt0 : ∀ x ∈ p0, x.block < W.heap.size := by obtain ⟨m, hm⟩ := k0; exact DataW.trod_lt m _ _ _ hm
  obtain ⟨A, P, K, w0⟩ : ∃ A P K, IsEvs W a0 len0 A P K := by
    obtain ⟨fuel, hf⟩ := h0
    exact opened hf
  clear hA0 hval0
  refine (walk a0 len0 cap0 A P K W w0).mono fun e W' ⟨he, bel⟩ => ?_
  subst he
  exact ⟨_, rfl, _, _, _, [], _, [], hW', trodAll_mk1 (shut_bool Yba.underlying4 _), (trodAll_cons_mk (Below.trod laidOut (by kernel_rfl) (of_decide_eq_true (by kernel_rfl)) k0 bel lt0) trodAll_mk0), rfl, bel.frame _, fun h => by cases h⟩

theorem over : Rows.lawS1273ACompactRow.holds Yba.pinned (OpenSpec.ofChange Rows.lawS1273ACompactSpec) :=
  OpenClaim.holds_of_wide 3 Yba.f3 rfl rfl rfl rfl rfl rfl rfl ⟨rfl, rfl, rfl, rfl, rfl⟩ rfl rfl rfl rfl rfl (by kernel_rfl) Yba.func3 (by kernel_rfl)
    (of_decide_eq_true (by kernel_rfl)) (by unfold Func.isWrapper; first | (rw [if_pos (by decide +kernel)]; kernel_rfl) | (rw [if_neg (by decide +kernel)]; exact ⟨rfl, rfl⟩))
    (fun os started H enc _ => lifted os started H enc)

/-- ████ THE STATEMENT ████ -/
theorem proved : Rows.LawS1273ACompactSaid := over
end Go.Proofs.Ybulkzim.lawS1273ACompact
