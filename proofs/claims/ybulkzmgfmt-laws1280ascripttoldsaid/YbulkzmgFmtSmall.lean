import Derived.Test.YbulkzmgFmtMap
import Derived.Test.YbulkzmgFmtName
import Derived.Lib.PathFns
import Derived.LaidEqlPtr
namespace Go.Proofs.YbulkzmgFmt.Sc
open Go.RowKit Go.Extern.Stop Go.Stop Go.Extern
set_option linter.unusedVariables false

def intOf : Value → Int
  | .int _ n => n
  | _ => 0

/-! ### zzs1280ahas, zzs1280asametypes -/

/-- keys[0..] of a slice of strings. -/
def Strs (w : World) (a : Option Addr) (L : List ByteArray) : Prop := L = [] ∨ ∃ b o, a = some ⟨b, o, none⟩ ∧ ∀ j s, L[j]? = some s → w.cell? ⟨b, o + j, none⟩ = some (.string s)

set_option maxHeartbeats 800000 in
theorem has4 (a : Option Addr) (cap : Nat) (L : List ByteArray) (k : ByteArray) (w : World) (h : Strs w a L) (hl : L.length ≤ 256) :
    Calls Ybaf.prog 4 #[.slice a L.length cap, .string k] w fun e w' => ∃ r : Bool, e = .returned (.bool r) ∧ (r = true ↔ k ∈ L) ∧ w' = w := by
  have h := toHid h
  go_enter Ybaf.func4, Ybaf.ntmps4
  go_wp2
  go_loopw [5] (fun v wr => ∃ i : Nat, v = .int .i64 i ∧ i ≤ L.length ∧ wr = w ∧ k ∉ L.take i) (fun v _ => L.length - (intOf v).toNat)
  case atStart => exact ⟨0, rfl, by omega, rfl, by simp⟩
  case round =>
    obtain ⟨i, rfl, hi, rfl, hni⟩ := hrel
    by_cases hlt : i < L.length
    · have hg : L[i]? = some L[i] := List.getElem?_eq_getElem hlt
      rcases h.out with rfl | ⟨b, o, rfl, hc⟩
      · simp at hlt
      have hci := hc i _ hg
      clear hc
      generalize hx : L[i] = x at hg hci
      by_cases he : x = k
      · subst he
        go_wp2
        go_ret
        exact ⟨true, rfl, by simp [List.mem_of_getElem? hg], rfl⟩
      · have hne : (x.toList == k.toList) = false := by
          cases hq : (x.toList == k.toList)
          · rfl
          · exact absurd (str_inj (by simpa using hq)) he
        go_wp2
        go_round
        case rel =>
          refine ⟨i + 1, by simp, by omega, by first | rfl | trivial, ?_⟩
          rw [List.take_add_one, hg]
          simp only [Option.toList_some, List.mem_append, List.mem_singleton, not_or]
          exact ⟨hni, fun e => he e.symm⟩
        case measure => simp [intOf]; omega
    · have hieq : i = L.length := by omega
      subst hieq
      rw [List.take_length] at hni
      go_wp2
      go_ret
      exact ⟨false, rfl, by simp [hni], rfl⟩

/-- A slice of pointers. -/
def Ptrs (w : World) (a : Option Addr) (n : Nat) (f : Nat → Addr) : Prop := n = 0 ∨ ∃ b o, a = some ⟨b, o, none⟩ ∧ ∀ j, j < n → w.cell? ⟨b, o + j, none⟩ = some (.pointer (some (f j)))
theorem Ptrs.kc {own : Nat → Nat → Prop} {w w' : World} {b o : Nat} {n : Nat} {f : Nat → Addr} (h : Ptrs w (some ⟨b, o, none⟩) n f) (k : KC own w w') (ho : ∀ j, j < n → ¬ own b (o + j)) : Ptrs w' (some ⟨b, o, none⟩) n f := by
  rcases h with h | ⟨b', o', e, h⟩
  · exact .inl h
  · cases e
    exact .inr ⟨b, o, rfl, fun j hj => k.cell _ _ _ (ho j hj) (h j hj)⟩

theorem has52 : (Ybaf.prog.info? 52).isSome = true := by kernel_rfl
theorem neq34 (a : Addr) (w : World) : (binOp .neq 34 (.pointer (some a)) (.pointer (some a))).run Ybaf.prog w = .ok (.bool false) w := by
  obtain ⟨j, hj⟩ := Option.isSome_iff_exists.1 has52
  have h : ∀ d : Nat, (Op.equalIn (d + 1) 34 (.pointer (some a)) (.pointer (some a))).run Ybaf.prog w = .ok true w := fun d => by
    simp [Op.equalIn, run_underlying Ybaf.underlying34, sizeOf, typeInfo, hj, run_sameAddr_same]
  simp only [binOp]
  simp [Op.equal, Op.maxDepth, h 9999]

set_option maxHeartbeats 800000 in
theorem same6 (a a' : Option Addr) (cap cap' n : Nat) (f : Nat → Addr) (hf : ∀ j, (f j).spot = none) (w : World) (h : Ptrs w a n f) (h' : Ptrs w a' n f) (hn : n ≤ 256) :
    Calls Ybaf.prog 6 #[.slice a n cap, .slice a' n cap'] w fun e w' => ∃ m, e = .returned (.bool true) ∧ w' = w.drewN m := by
  have h := toHid h
  have h' := toHid h'
  have hf := toHid hf
  go_enter Ybaf.func6, Ybaf.ntmps6
  go_wp2
  go_loopw [5] (fun v wr => ∃ i m : Nat, v = .int .i64 i ∧ i ≤ n ∧ wr = w.drewN m) (fun v _ => n - (intOf v).toNat)
  case atStart => exact ⟨0, 0, rfl, by omega, rfl⟩
  case round =>
    obtain ⟨i, m, rfl, hi, rfl⟩ := hrel
    by_cases hlt : i < n
    · rcases h.out with rfl | ⟨b, o, rfl, hc⟩
      · omega
      rcases h'.out with rfl | ⟨b', o', rfl, hc'⟩
      · omega
      have hci := hc i hlt
      have hci' := hc' i hlt
      clear hc hc'
      obtain ⟨fb, fo, hfi⟩ : ∃ fb fo, f i = ⟨fb, fo, none⟩ := by
        have := hf.out i
        cases hfe : f i with | mk b o s => rw [hfe] at this; simp at this; exact ⟨b, o, by rw [this]⟩
      rw [hfi] at hci hci'
      have hq := neq34 ⟨fb, fo, none⟩
      go_wp2
      go_quiet (fail)
      go_wp2
      go_round
      case rel => exact ⟨i + 1, _, by simp, by omega, rfl⟩
      case measure => simp [intOf]; omega
    · have hieq : i = n := by omega
      subst hieq
      go_wp2
      go_ret
      exact ⟨_, rfl, rfl⟩

/-! ### argList -/

/-- The text of a function. -/
def txt (s m l : ByteArray) : ByteArray := s ++ ⟨#[46]⟩ ++ m ++ ⟨#[40]⟩ ++ l ++ ⟨#[41]⟩

theorem txt_size (s m l : ByteArray) : (txt s m l).size = s.size + m.size + l.size + 3 := by
  simp [txt, ByteArray.size_append]
  show s.size + 1 + m.size + 1 + l.size + 1 = _
  omega
theorem txt_list (s m l : ByteArray) : (txt s m l).data.toList = s.data.toList ++ (46 :: m.data.toList) ++ (40 :: l.data.toList) ++ [41] := by
  simp [txt]

theorem ext_mid {t : ByteArray} (a e : Nat) (A : List UInt8) (x : ByteArray) (C : List UInt8) (h : t.data.toList = A ++ (x.data.toList ++ C)) (ha : A.length = a) (he : e = a + x.data.size) : t.extract a e = x := by
  apply Go.WideShapes.bytes_inj
  subst ha he
  rw [ByteArray.data_extract, Array.toList_extract, h]
  simp [List.extract]
theorem txt_args (s m l : ByteArray) : (txt s m l).extract (s.size + 1 + m.size + 1) ((txt s m l).size - 1) = l := by
  have e : (txt s m l).data.toList = (s.data.toList ++ (46 :: m.data.toList) ++ [40]) ++ (l.data.toList ++ [41]) := by rw [txt_list]; simp
  exact ext_mid _ _ _ l [41] e (by simp; omega) (by rw [txt_size]; show _ = _ + l.size; omega)

set_option maxHeartbeats 800000 in
theorem argl35 (b o : Nat) (s m l : ByteArray) (w : World) (h0 : w.cell? ⟨b, o, none⟩ = some (.string s)) (h1 : w.cell? ⟨b, o + 1, none⟩ = some (.string m)) (h4 : w.cell? ⟨b, o + 4, none⟩ = some (.string (txt s m l))) (hsz : s.size + m.size + l.size ≤ 100000) :
    Calls Ybaf.prog 35 #[.pointer (some ⟨b, o, none⟩)] w fun e w' => e = .returned (.string l) ∧ ∃ n, w' = w.drewN n := by
  have hts := txt_size s m l
  have hta := txt_args s m l
  generalize txt s m l = t at h4 hts hta
  go_enter Ybaf.func35, Ybaf.ntmps35
  go_wp2
  go_quiet (fail)
  go_wp2
  go_ret
  rw [hts] at hta
  exact ⟨congrArg (fun x => Ending.returned (.string x)) hta, _, rfl⟩

/-! ### IndexFunc, ContainsFunc over the closure of add -/

/-- What argList needs of a function at (b, o). -/
def HasL (w : World) (a : Addr) (l : ByteArray) : Prop := ∃ b o s m, a = ⟨b, o, none⟩ ∧ w.cell? ⟨b, o, none⟩ = some (.string s) ∧ w.cell? ⟨b, o + 1, none⟩ = some (.string m) ∧ w.cell? ⟨b, o + 4, none⟩ = some (.string (txt s m l)) ∧ s.size + m.size + l.size ≤ 100000
theorem HasL.call {w : World} {a : Addr} {l : ByteArray} (h : HasL w a l) : Calls Ybaf.prog 35 #[.pointer (some a)] w fun e w' => e = .returned (.string l) ∧ ∃ n, w' = w.drewN n := by
  obtain ⟨b, o, s, m, rfl, h0, h1, h4, hs⟩ := h
  exact argl35 b o s m l w h0 h1 h4 hs

set_option maxHeartbeats 800000 in
theorem close37 (a : Addr) (B : Nat) (l k : ByteArray) (w : World) (h : HasL w a l) (hB : w.cell? ⟨B, 0, none⟩ = some (.string k)) :
    Calls Ybaf.prog 37 #[.pointer (some a), .pointer (some ⟨B, 0, none⟩)] w fun e w' => e = .returned (.bool (l.toList == k.toList)) ∧ ∃ n, w' = w.drewN n := by
  have H := toHid (fun n => (show HasL (w.drewN n) a l from h).call)
  go_enter Ybaf.func37, Ybaf.ntmps37
  go_wp2
  go_quiet ((go_at_call 35; exact Calls.quiet_of (H.out _)))
  go_wp2
  go_ret
  exact ⟨rfl, _, rfl⟩
end Go.Proofs.YbulkzmgFmt.Sc
