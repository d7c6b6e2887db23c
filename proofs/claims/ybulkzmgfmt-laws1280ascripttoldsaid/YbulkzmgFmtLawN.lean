import Derived.Test.YbulkzmgFmtLawM
import Derived.Deep.CutRange
namespace Go.Proofs.YbulkzmgFmt.Sc
open Go.RowKit Go.Extern.Stop Go.Stop Go.Extern
set_option linter.unusedVariables false
set_option linter.unusedSimpArgs false
set_option maxRecDepth 1000000 in
set_option maxHeartbeats 6400000 in
theorem law_long (a : Option Addr) (cap n : Nat) (w : World) (h1 : 256 < n) (h2 : n ≤ 9223372036854775807) :
    Calls Ybaf.prog 3 #[.slice a n cap] w fun e w' => e = .returned (.bool true) ∧ Below w.heap.size w w' := by
  go_enter Ybaf.func3, Ybaf.ntmps3
  go_wp2
  go_ret
  exact ⟨rfl, Below.refl _ _⟩
set_option maxRecDepth 1000000 in
set_option maxHeartbeats 6400000 in
theorem law_walk (F : Interp) (a : Option Addr) (cap n : Nat) (S : Nat → StepD) (w : World) (hF : F.answers w.tape) (hP : PT w) (hn : n ≤ 256) (hS : ∀ i, i < n → ∃ b o, a = some ⟨b, o, none⟩ ∧ StepAt w b (o + i * 4) (S i)) :
    Calls Ybaf.prog 3 #[.slice a n cap] w fun e w' => e = .returned (.bool true) ∧ Below w.heap.size w w' := by
  replace hS := toHid hS
  replace hF := toHid hF
  replace hP := toHid hP
  have hmk := @run_makeMap Ybaf.prog
  go_enter Ybaf.func3, Ybaf.ntmps3
  go_wp2
  go_loopw [43] (fun v wr => ∃ i : Nat, v = .int .i64 i ∧ i ≤ n ∧ Below w.heap.size w wr ∧ ∀ j, j < i → (S j).al ≤ 256) (fun v _ => n - (intOf v).toNat)
  case atStart => exact ⟨0, rfl, by omega, Below.refl _ _, by omega⟩
  case round =>
    obtain ⟨i, rfl, hi, hb, h256⟩ := hrel
    by_cases hlt : i < n
    · obtain ⟨b, o, rfl, st0⟩ := hS.out i hlt
      have st := st0.below hb (Nat.le_refl _)
      have c0 := st.c0
      have c1 := st.c1
      have c2 := st.c2
      have c3 := st.c3
      have hbs := st.bs
      clear st st0
      by_cases h2 : (S i).al ≤ 256
      · have hrel' : Hid (∃ i' : Nat, (.int .i64 ((i : Int) + 1) : Value) = .int .i64 i' ∧ i' ≤ n ∧ Below w.heap.size w (wr.alloc (.cells #[.int .u8 ((S i).s : Nat), .int .u8 ((S i).m : Nat), .slice (S i).aa (S i).al (S i).ac, .int .u8 ((S i).r : Nat)] 25)) ∧ ∀ j, j < i' → (S j).al ≤ 256) := ⟨i + 1, by simp, by omega, hb.alloc hb.size _, fun j hj => by
          by_cases hji : j = i
          · rw [hji]; exact h2
          · exact h256 j (by omega)⟩
        replace h256 := toHid h256
        go_wp2
        go_round
        case rel => exact hrel'.out
        case measure => simp [intOf]; omega
      · replace h256 := toHid h256
        go_wp2
        go_ret
        exact ⟨rfl, hb.alloc hb.size _⟩
    · have hin : n = i := by omega
      subst hin
      replace h256 := toHid h256
      obtain ⟨wo, rfl⟩ : ∃ wo, wo = wr := ⟨_, rfl⟩
      obtain ⟨w8, w9, hu8, hu9, st⟩ := start wo
      unfold w7 A26 A27 A28 at hu8
      have hz9 := st.size
      replace st := toHid st
      go_wp2
      generalize hp : wo.heap.size = p at hz9 ⊢
      have i0 := toHid (Inv2.start hp st.out)
      clear hu8 hu9 hz9
      replace hp := toHid hp
      go_loopw [10] (fun v wx => ∃ i : Nat, v = .int .i64 i ∧ i ≤ 7 ∧ Inv2 p wo wx i) (fun v _ => 7 - (intOf v).toNat)
      case atStart => exact ⟨0, rfl, by omega, i0.out⟩
      case round =>
        clear i0
        obtain ⟨i, rfl, hi7, I⟩ := hrel
        by_cases hlt7 : i < 7
        · have cT := cell28 I.t28 (i := i) (by omega)
          have cc := cell_of_row _ _ 0 _ _ _ I.cb
          obtain ⟨ud, hud⟩ := I.sd.some (i := i) hlt7
          have fzd := I.sd.frozen i
          have lt2 : p + 1 + 1 < wr.heap.size := by have := I.size; omega
          have lt7 : p + 7 < wr.heap.size := by have := I.size; omega
          have lt8 : p + 7 + 1 < wr.heap.size := by have := I.size; omega
          have lt3 : p + 1 + 1 + 1 < wr.heap.size := by have := I.size; omega
          obtain ⟨w', hu, I'⟩ := I.step hp.out hlt7
          replace I := toHid I
          replace I' := toHid I'
          generalize tyN i = tn at cT hu
          go_wp2
          go_region
          go_wp2
          go_round
          case rel => exact ⟨i + 1, by simp, by omega, I'.out⟩
          case measure => simp [intOf]; omega
        · have hi77 : i = 7 := by omega
          subst hi77
          replace I := toHid I
          go_wp2
          rename_i K4 hK4
          have L0 := li0 I.out hb hp.out
          replace hK4 := toHid hK4
          apply loop3w (hc := rfl) (hF := hF.out) (hP := hP.out) (hn := hn) (hS := hS.out) (hal := h256.out) (L := L0)
          intros
          rename_i L
          show K4 _ _
          refine hK4.out _ _ ?_
          clear hK4
          apply partD (L := L) (hi := hn)
          intros
          rename_i hbl
          go_ret
          exact ⟨rfl, hbl⟩
/-- The whole law. -/
theorem law_any (F : Interp) (a : Option Addr) (cap n : Nat) (S : Nat → StepD) (w : World) (hF : F.answers w.tape) (hP : PT w) (hn : n ≤ 9223372036854775807) (hS : ∀ i, i < n → ∃ b o, a = some ⟨b, o, none⟩ ∧ StepAt w b (o + i * 4) (S i)) :
    Calls Ybaf.prog 3 #[.slice a n cap] w fun e w' => e = .returned (.bool true) ∧ Below w.heap.size w w' := by
  by_cases h : n ≤ 256
  · exact law_walk F a cap n S w hF hP h hS
  · exact law_long a cap n w (by omega) hn
end Go.Proofs.YbulkzmgFmt.Sc
