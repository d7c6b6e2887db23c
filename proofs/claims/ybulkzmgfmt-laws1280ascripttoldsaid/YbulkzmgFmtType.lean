import Derived.Test.YbulkzmgFmtFind
import Derived.Test.YbulkzmgFmtShelf
namespace Go.Proofs.YbulkzmgFmt.Sc
open Go.RowKit Go.Extern.Stop Go.Stop Go.Extern
set_option linter.unusedVariables false

/-- The entries of c.types. -/
def TL (ty : Nat → Nat) : List (Value × Value) := (List.range 7).map fun k => (.string (tyN k), .pointer (some ⟨ty k, 0, none⟩))

theorem tyN_inj : ∀ a b : Fin 8, tyN a.val = tyN b.val → a = b := by
  intro a b h
  have h2 : (tyN a.val).data.toList = (tyN b.val).data.toList := by rw [h]
  revert a b
  decide +kernel
theorem tyN_size : ∀ a : Nat, (tyN a).size ≤ 7 := by
  intro a
  unfold tyN
  repeat' split
  all_goals decide

theorem TL_good (ty : Nat → Nat) : ∀ p ∈ TL ty, strKey p.1 := by
  intro p hp
  obtain ⟨k, _, rfl⟩ := List.mem_map.1 hp
  exact ⟨_, rfl, by have := tyN_size k; unfold maxLen; omega⟩

set_option maxHeartbeats 800000 in
theorem named_ok (cb tm k : Nat) (ty : Nat → Nat) (w : World) (h0 : w.cell? ⟨cb, 0, none⟩ = some (.map (some tm))) (hm : MapE w tm (TL ty)) (hk : k < 7) :
    Calls Ybaf.prog 11 #[.pointer (some ⟨cb, 0, none⟩), .string (tyN k)] w fun e w' => e = .returned (.tuple #[.pointer (some ⟨ty k, 0, none⟩), .nilIface]) ∧ w' = w := by
  have hl := hm.look_some strOK Ybaf.underlying30 (TL_good ty) (key := .string (tyN k)) (v := .pointer (some ⟨ty k, 0, none⟩)) ⟨_, rfl, by have := tyN_size k; unfold maxLen; omega⟩ (List.mem_map.2 ⟨k, by simpa using hk, rfl⟩)
    (fun v' hv => by
      obtain ⟨k', hk', he⟩ := List.mem_map.1 hv
      simp only [Prod.mk.injEq, Value.string.injEq] at he
      have hk7 : k' < 7 := by simpa using hk'
      have := tyN_inj ⟨k', by omega⟩ ⟨k, by omega⟩ he.1
      simp only [Fin.mk.injEq] at this
      subst this
      exact he.2.symm) false
  simp only [Bool.false_eq_true, if_false] at hl
  have hm := toHid hm
  go_enter Ybaf.func11, Ybaf.ntmps11
  go_wp2
  go_ret2
  exact ⟨rfl, rfl⟩

set_option maxHeartbeats 800000 in
theorem named_no (F : Interp) (cb tm : Nat) (ty : Nat → Nat) (w : World) (hF : F.answers w.tape) (h0 : w.cell? ⟨cb, 0, none⟩ = some (.map (some tm))) (hm : MapE w tm (TL ty)) :
    Calls Ybaf.prog 11 #[.pointer (some ⟨cb, 0, none⟩), .string (tyN 7)] w fun e w' => ∃ v, e = .returned (.tuple #[.pointer none, v]) ∧ IsErr w' v ∧ KC nob w w' := by
  have hl := hm.look_none strOK Ybaf.underlying30 (TL_good ty) (key := .string (tyN 7)) ⟨_, rfl, by have := tyN_size 7; unfold maxLen; omega⟩
    (fun p hp he => by
      obtain ⟨k', hk', rfl⟩ := List.mem_map.1 hp
      simp only [Value.string.injEq] at he
      have hk7 : k' < 7 := by simpa using hk'
      have := tyN_inj ⟨k', by omega⟩ ⟨7, by omega⟩ he
      simp only [Fin.mk.injEq] at this
      omega) (Ybaf.zeroValue34 w) false
  simp only [Bool.false_eq_true, if_false] at hl
  have hm := toHid hm
  generalize tyN 7 = s at hl ⊢
  have HE := toHid (errorf_typ F w.heap.size s (w.alloc (.cells #[.iface 9 (.string s)] 20)) hF (cell_of_row _ _ _ _ _ _ (heap_alloc_new _ _)))
  go_enter Ybaf.func11, Ybaf.ntmps11
  go_wp2_with (go_at_call 9; refine HE.out.mono ?_; rintro e w' ⟨v, rfl, hv, hK⟩)
  go_ret2
  exact ⟨v, rfl, hv, ((KC.refl _ w).alloc _).trans hK⟩

/-- The joined list of the first i argument types. -/
def jn (ka : Nat → Nat) : Nat → ByteArray
  | 0 => ⟨#[]⟩
  | i + 1 => (if i = 0 then jn ka i else jn ka i ++ ⟨#[44, 32]⟩) ++ tyN (ka i)

theorem jn_size (ka : Nat → Nat) : ∀ i, (jn ka i).size ≤ 9 * i
  | 0 => by simp [jn]; rfl
  | i + 1 => by
    have := jn_size ka i
    have h2 := tyN_size (ka i)
    unfold jn
    split
    · rw [ByteArray.size_append]; omega
    · rw [ByteArray.size_append, ByteArray.size_append]
      have : (ByteArray.mk #[44, 32]).size = 2 := rfl
      omega

set_option maxHeartbeats 800000 in
theorem len22 (a : Option Addr) (cap n : Nat) (ka ty : Nat → Nat) (w : World) (h : Ptrs w a n (fun j => ⟨ty (ka j), 0, none⟩)) (ht : ∀ j, j < n → w.cell? ⟨ty (ka j), 0, none⟩ = some (.string (tyN (ka j)))) (hn : n ≤ 100) :
    Calls Ybaf.prog 22 #[.slice a n cap] w fun e w' => e = .returned (.int .i64 (jn ka n).size) ∧ w' = w := by
  replace h := toHid h
  replace ht := toHid ht
  go_enter Ybaf.func22, Ybaf.ntmps22
  go_wp2
  go_loopw [3, 8] (fun t v wr => ∃ i : Nat, v = .int .i64 i ∧ t = .int .i64 (jn ka i).size ∧ i ≤ n ∧ wr = w) (fun _ v _ => n - (intOf v).toNat)
  case atStart => exact ⟨0, rfl, by simp [jn]; rfl, by omega, rfl⟩
  case round =>
    obtain ⟨i, rfl, rfl, hi, rfl⟩ := hrel
    by_cases hlt : i < n
    · rcases h.out with rfl | ⟨b, o, rfl, hc⟩
      · omega
      have hci := hc i hlt
      simp only at hci
      have hti := ht.out i hlt
      clear hc
      have hs := jn_size ka i
      have hs2 := tyN_size (ka i)
      have hsz : (jn ka (i + 1)).size = (if i = 0 then (jn ka i).size else (jn ka i).size + 2) + (tyN (ka i)).size := by
        conv => lhs; unfold jn
        split
        · rw [ByteArray.size_append]
        · rw [ByteArray.size_append, ByteArray.size_append]; rfl
      generalize tyN (ka i) = x at hti hs2 hsz
      generalize ty (ka i) = tb at hci hti
      generalize (jn ka i).size = z at hs hsz ⊢
      go_wp2
      all_goals (
        go_round
        case rel => exact ⟨i + 1, by simp, by rw [hsz]; first | (rw [if_pos (by omega)]; simp; done) | (rw [if_neg (by omega)]; simp; done), by omega, by first | rfl | trivial⟩
        case measure => simp [intOf]; omega)
    · have hieq : i = n := by omega
      subst hieq
      go_wp2
      go_ret
      exact ⟨rfl, rfl⟩
end Go.Proofs.YbulkzmgFmt.Sc
