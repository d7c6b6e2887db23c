/- The proof of 'Rows.LawS1276CBuiltCardSaid': the row's frame is turned from the kit's worked tied card; the walk is ours. -/
import Derived.Test.YbulkzkcDoorRows
import Derived.Test.YbulkzkcDoorTie
import Derived.Test.YbulkzkcDoorCards
import Derived.WalkKit
import Derived.ProofKit
import Derived.OpenShut
import Derived.ShutString
import Derived.ChangeOld
import Derived.Below
import Derived.SevenTiedAt
import Derived.Test.YbulkzkcDoorMet
import Derived.Test.YbulkzkcDoorLawBuilt
namespace Go.Proofs.YbulkzkcDoor.lawS1276CBuilt
open Go.ChangeShapes Go.WideShapes Go.ChangeAt Go.RowKit
open Go.ChangeMaps (open_string shut_string)
set_option linter.unusedVariables false

theorem own : ownKnob Ybad.prog.godebug = none := by kernel_rfl
theorem laidOut : laidOutB Ybad.prog = true := by kernel_rfl

/-- What the walk is told of a slice of bytes that came in. -/
def IsBytes (w : World) (a : Option Addr) (len b off : Nat) (F : Nat → Nat) : Prop :=
  len ≤ 9223372036854775807 ∧ (0 < len → a = some ⟨b, off, none⟩) ∧ (0 < len → b < w.heap.size) ∧ (∀ j, j < len → w.cell? ⟨b, off + j, none⟩ = some (.int .u8 (F j : Nat))) ∧ (∀ j, F j ≤ 255) ∧ ∀ j, len ≤ j → F j = 0

theorem opened {H : Type} {enc : TypeId × Value → H} {w : World} {base fuel : Nat} {spare : Nat → Bool} {held : Bool} {a : Option Addr} {len cap : Nat} {x : DataW H × List MemPlace}
    (hf : DataW.trod enc Ybad.prog w base spare held fuel 30 [.slice a len cap] = some x) : ∃ b off F, IsBytes w a len b off F := by
  rcases open_ints Ybad.underlying30 Ybad.underlying5 (by kernel_rfl) hf with ⟨hcs, _⟩ | ⟨x, l, c, zs, hcs, _, hl, hm, hz, _, hcell, hwz⟩
  · simp at hcs
    obtain ⟨rfl, rfl, rfl⟩ := hcs
    exact ⟨0, 0, fun _ => 0, by omega, fun h => absurd h (by omega), fun h => absurd h (by omega), fun j h => absurd h (by omega), fun _ => Nat.zero_le _, fun _ _ => rfl⟩
  · simp at hcs
    obtain ⟨rfl, rfl, rfl⟩ := hcs
    by_cases h0 : len = 0
    · subst h0
      exact ⟨0, 0, fun _ => 0, by omega, fun h => absurd h (by omega), fun h => absurd h (by omega), fun j h => absurd h (by omega), fun _ => Nat.zero_le _, fun _ _ => rfl⟩
    · have hzl : len ≤ zs.length := by rw [hz]; split <;> omega
      obtain ⟨b, off, rfl, hc⟩ := ints_at hcell (by omega)
      unfold maxLen at hm
      have hb : ∀ j, 0 ≤ zs.getD j 0 ∧ zs.getD j 0 ≤ 255 := fun j => by
        have := range_u8 hwz j
        simpa [List.getD] using this
      refine ⟨b, off, fun j => if j < len then (zs.getD j 0).toNat else 0, by omega, fun _ => rfl, fun _ => World.block_lt_of_cell? w ⟨b, off + 0, none⟩ (hc 0 (by omega)), fun j hj => ?_, fun j => ?_, fun j hj => ?_⟩
      · rw [hc j (by omega)]
        have := hb j
        simp only [hj, if_true]
        congr 2
        omega
      · have hz' := hb j
        show (if j < len then (zs.getD j 0).toNat else 0) ≤ 255
        generalize zs.getD j 0 = z at hz' ⊢
        split <;> omega
      · show (if _ then _ else _) = 0
        rw [if_neg (by omega)]

theorem walk_long (pa da : Option Addr) (k pcap dl dcap : Nat) (tail : ByteArray) (w : World) (h : 256 < k ∨ 1024 < tail.size) (hk : k ≤ 9223372036854775807) :
    Calls Ybad.prog 4 #[.slice pa k pcap, .slice da dl dcap, .string tail] w fun e w' => e = .returned (.bool true) ∧ Below w.heap.size w w' := by
  by_cases h1 : 256 < k
  · go_enter Ybad.func4, Ybad.ntmps4
    go_wp2
    go_ret
    exact ⟨rfl, Below.refl _ _⟩
  · have h2 : 1024 < tail.size := by omega
    go_enter Ybad.func4, Ybad.ntmps4
    go_wp2
    go_ret
    exact ⟨rfl, Below.refl _ _⟩

set_option maxRecDepth 100000 in
theorem lifted (os : Os) (started : os.Started) (H : Type) (enc : TypeId × Value → H) :
    ReturnsInHanded {} Ybad.checked os 4 .any (fun w args => (Rows.lawS1276CBuiltSpec.pre enc Ybad.prog Ybad.f4 [] false w args ∧ laidMetH Ybad.prog Rows.lawS1276CBuiltRow.laid w) ∧ sizedMet enc Ybad.prog Ybad.f4 (OpenSpec.ofChange Rows.lawS1276CBuiltSpec) false w args)
      (Rows.lawS1276CBuiltSpec.post enc Ybad.prog Ybad.f4 false true false false) := by
  refine returnsInHanded_of_change_and (C := Ybad.checked) (X := fun w _ => laidMetH Ybad.prog Rows.lawS1276CBuiltRow.laid w) (fun _ _ _ hh h => h.of_heap hh) own started (by kernel_rfl) Ybad.func4
    (ChangeSpec.witness_shaped (enc := enc) (C := Ybad.checked) (os := os) (X := fun w _ => laidMetH Ybad.prog Rows.lawS1276CBuiltRow.laid w) false (World.doorLaid Ybad.prog 4000 os) #[.slice none 0 0, .slice none 0 0, .string ⟨#[]⟩] 8 rfl (World.shaped_of_RefB (by kernel_rfl) (by kernel_rfl)) (by kernel_rfl) (by kernel_rfl) (by kernel_rfl) (Met.door_met os _)) ?_
  intro W base args ds gs before hval0 hW _ _ hL _
  have hval : ∀ (j : Nat) t v, Ybad.f4.params[j]? = some t → args[j]? = some v → Value.okWide Ybad.prog W .any base t v := hval0
  have hW' := hW
  obtain ⟨p, q, hA0, hV, rfl, hfz, hnd⟩ := hW
  have hA : DataW.TrodAll enc Ybad.prog W 0 (fun _ => true) true Ybad.f4.params.toList args.toList ds p := hA0
  rw [Ybad.params4] at hA hval
  obtain ⟨v0, vs0, d0, ds0, p0, q0, hargs0, rfl, rfl, h0, r0⟩ := trodAll_cons hA
  obtain ⟨v1, vs1, d1, ds1, p1, q1, rfl, rfl, rfl, h1, r1⟩ := trodAll_cons r0
  obtain ⟨v2, vs2, d2, ds2, p2, q2, rfl, rfl, rfl, h2, r2⟩ := trodAll_cons r1
  obtain ⟨rfl, rfl, rfl⟩ := trodAll_nil r2
  obtain rfl : args = #[v0, v1, v2] := by cases args; simp_all
  obtain ⟨rfl, rfl⟩ := trodVars_none hV
  have k0 := h0
  have k1 := h1
  have k2 := h2
  have lt0 : ∀ x ∈ p0, x.block < W.heap.size := by obtain ⟨m, hm⟩ := k0; exact DataW.trod_lt m _ _ _ hm
  have lt1 : ∀ x ∈ p1, x.block < W.heap.size := by obtain ⟨m, hm⟩ := k1; exact DataW.trod_lt m _ _ _ hm
  have lt2 : ∀ x ∈ p2, x.block < W.heap.size := by obtain ⟨m, hm⟩ := k2; exact DataW.trod_lt m _ _ _ hm
  obtain ⟨pa, k, pcap, rfl⟩ := okWide_slice Ybad.underlying30 (hval 0 30 v0 rfl rfl)
  obtain ⟨da, dl, dcap, rfl⟩ := okWide_slice Ybad.underlying30 (hval 1 30 v1 rfl rfl)
  obtain ⟨tail, rfl, _⟩ := open_string Ybad.underlying9 (hval 2 9 v2 rfl rfl) h2
  obtain ⟨pb, po, P, hP0, hP1, hP2, hP3, hP4, hP5⟩ : ∃ b off F, IsBytes W pa k b off F := by obtain ⟨m, hm⟩ := h0; exact opened hm
  obtain ⟨db, dof, D, hD0, hD1, hD2, hD3, hD4, hD5⟩ : ∃ b off F, IsBytes W da dl b off F := by obtain ⟨m, hm⟩ := h1; exact opened hm
  have walk : Calls Ybad.prog 4 #[.slice pa k pcap, .slice da dl dcap, .string tail] W fun e w' => e = .returned (.bool true) ∧ Below W.heap.size W w' := by
    by_cases hlong : 256 < k ∨ 1024 < tail.size
    · exact walk_long pa da k pcap dl dcap tail W hlong hP0
    · exact Rd.lawBuilt_any pa da pb po k pcap db dof dl dcap tail P D W hP1 hP2 hP3 hP4 hD1 hD2 hD3 hD4 hD5 (by omega) (by omega) hD0
  clear hA0 hval0
  refine walk.mono fun e W' ⟨he, bel⟩ => ?_
  subst he
  exact ⟨_, rfl, _, _, _, [], _, [], hW', trodAll_mk1 (shut_bool Ybad.underlying4 _), (trodAll_cons_mk (Below.trod laidOut (by kernel_rfl) (of_decide_eq_true (by kernel_rfl)) k0 bel lt0) (trodAll_cons_mk (Below.trod laidOut (by kernel_rfl) (of_decide_eq_true (by kernel_rfl)) k1 bel lt1) (trodAll_cons_mk (Below.trod laidOut (by kernel_rfl) (of_decide_eq_true (by kernel_rfl)) k2 bel lt2) trodAll_mk0))), rfl, bel.frame _, fun h => by cases h⟩

theorem row_holds : Rows.LawS1276CBuiltSaid :=
  OpenClaim.holds_of_wide 4 Ybad.f4 rfl rfl rfl rfl rfl rfl rfl ⟨rfl, rfl, rfl, rfl, rfl⟩ rfl rfl rfl rfl rfl (by kernel_rfl) Ybad.func4 (by kernel_rfl)
    (of_decide_eq_true (by kernel_rfl)) (by unfold Func.isWrapper; first | (rw [if_pos (by decide +kernel)]; kernel_rfl) | (rw [if_neg (by decide +kernel)]; exact ⟨rfl, rfl⟩))
    (fun os started H enc _ => lifted os started H enc)

/-- ████ THE STATEMENT ████ -/
theorem proved : Rows.LawS1276CBuiltCardSaid :=
  Claim7.holds_tied_plain_at .later [] [.data, .data, .data, .sentinel, .sentinel] true (true, "be563f7069e6b3b61ef83c66261b769cc06afe15ea41e1288c08d43bcad2fb61") true
    row_holds (fun _ h => by cases h) (by kernel_rfl) (fun _ h => by cases h) lawS1276CBuilt_row_tie rfl ⟨rfl, rfl⟩ (by kernel_rfl) rfl
    (fun f fn hf hfn => by
      obtain rfl : f = 4 := Option.some.inj ((show Ybad.prog.funcNamed Rows.lawS1276CBuiltRow.func = some 4 by kernel_rfl).symm.trans hf) |>.symm
      obtain rfl : fn = Ybad.f4 := (Option.some.inj (Ybad.func4.symm.trans hfn)).symm
      exact ⟨by kernel_rfl, fun j t ht => by
        rw [Ybad.params4] at ht
        have hm : t ∈ [30, 30, 9] := by simpa using Array.mem_of_getElem? ht
        have hall : ([30, 30, 9].all fun u => !Ybad.prog.wantsStandIn u) = true := by kernel_rfl
        exact (show Ybad.prog.wantsStandIn t = false by simpa using List.all_eq_true.1 hall t hm)⟩)
    (by kernel_rfl)
end Go.Proofs.YbulkzkcDoor.lawS1276CBuilt
