import Derived.Test.YbulkzmgFmtType
namespace Go.Proofs.YbulkzmgFmt.Sc
open Go.RowKit Go.Extern.Stop Go.Stop Go.Extern
set_option linter.unusedVariables false

theorem cells_append (a b : ByteArray) : Lib.strCells (a ++ b) = Lib.strCells a ++ Lib.strCells b := by
  simp [Lib.strCells]

theorem IsB.mono {B b : Nat} {bs : List Value} {p : Value} {w : World} (h : Lib.BuilderAt 95 5 B b (.pointer (some ⟨b, 0, none⟩)) bs w) : Lib.IsBuilder 95 5 B b bs w := .inr h
theorem ptrs_below {B : Nat} {w w' : World} {a : Option Addr} {n : Nat} {f : Nat → Addr} (h : Ptrs w a n f) (hb : Below B w w') (ha : ∀ b o, a = some ⟨b, o, none⟩ → b < B) : Ptrs w' a n f := by
  rcases h with h | ⟨b, o, rfl, h⟩
  · exact .inl h
  · exact .inr ⟨b, o, rfl, fun j hj => (hb.cell (ha b o rfl)).trans (h j hj)⟩

set_option maxHeartbeats 1600000 in
theorem write25 (B b : Nat) (bs : List Value) (a : Option Addr) (cap n : Nat) (ka ty : Nat → Nat) (w : World) (hB : Lib.IsBuilder 95 5 B b bs w) (hBw : B ≤ w.heap.size) (h : Ptrs w a n (fun j => ⟨ty (ka j), 0, none⟩)) (ht : ∀ j, j < n → w.cell? ⟨ty (ka j), 0, none⟩ = some (.string (tyN (ka j))))
    (ha : ∀ b o, a = some ⟨b, o, none⟩ → b < B) (htB : ∀ j, j < n → ty (ka j) < B) (hn : n ≤ 100) (hbs : bs.length ≤ 1000) :
    Calls Ybaf.prog 25 #[.pointer (some ⟨b, 0, none⟩), .slice a n cap] w fun e w' => e = .returned (.tuple #[]) ∧ Lib.IsBuilder 95 5 B b (bs ++ Lib.strCells (jn ka n)) w' ∧ Below B w w' := by
  replace h := toHid h
  replace ht := toHid ht
  replace ha := toHid ha
  replace htB := toHid htB
  replace hB := toHid hB
  go_enter Ybaf.func25, Ybaf.ntmps25
  go_wp2
  go_loopw [8] (fun v wr => ∃ i : Nat, v = .int .i64 i ∧ i ≤ n ∧ Lib.IsBuilder 95 5 B b (bs ++ Lib.strCells (jn ka i)) wr ∧ Below B w wr) (fun v _ => n - (intOf v).toNat)
  case atStart => exact ⟨0, rfl, by omega, by simpa [jn, Lib.strCells, Lib.byteCells] using hB.out, Below.refl _ _⟩
  case round =>
    obtain ⟨i, rfl, hi, hb, hbe⟩ := hrel
    by_cases hlt : i < n
    · have hp := ptrs_below h.out hbe ha.out
      rcases hp with rfl | ⟨b', o, rfl, hc⟩
      · omega
      have hci := hc i hlt
      simp only at hci
      have hti := (hbe.cell (htB.out i hlt)).trans (ht.out i hlt)
      clear hc
      have hsz := hbe.size
      have hs := jn_size ka i
      have hs2 := tyN_size (ka i)
      have hl1 : (Lib.strCells (jn ka i)).length = (jn ka i).size := Lib.strCells_length _
      have hjn : jn ka (i + 1) = (if i = 0 then jn ka i else jn ka i ++ ⟨#[44, 32]⟩) ++ tyN (ka i) := rfl
      generalize tyN (ka i) = x at hti hs2 hjn
      have hB' := htB.out i hlt
      generalize ty (ka i) = tb at hci hti hB'
      by_cases h0 : i = 0
      · subst h0
        simp only [Nat.add_zero] at hci
        have W1 := toHid (Ybaf.Builder_WriteString B b _ x wr hb (by rw [List.length_append, hl1]; omega) (by omega))
        replace hb := toHid hb
        go_wp2_with (go_at_call 23; refine W1.out.mono ?_; rintro e w' ⟨rfl, hb', hbe'⟩)
        go_round
        case rel =>
          refine ⟨0 + 1, by simp, by omega, ?_, hbe.trans hbe'⟩
          rw [hjn, if_pos trivial, cells_append, ← List.append_assoc]
          exact .inr hb'
        case measure => simp [intOf]; omega
      · have W0 := toHid (Ybaf.Builder_WriteString B b _ ⟨#[44, 32]⟩ wr hb (by rw [List.length_append, hl1]; show _ + 2 ≤ _; omega) (by omega))
        replace hb := toHid hb
        have hti := toHid hti
        have hl2 : (Lib.strCells ⟨#[44, 32]⟩).length = 2 := rfl
        have W1 := toHid (fun (w' : World) (hb' : Lib.BuilderAt 95 5 B b (.pointer (some ⟨b, 0, none⟩)) (bs ++ Lib.strCells (jn ka i) ++ Lib.strCells ⟨#[44, 32]⟩) w') (hbe' : Below B wr w') =>
          Ybaf.Builder_WriteString B b _ x w' (.inr hb') (by rw [List.length_append, List.length_append, hl1, hl2]; omega) (by have := hbe'.size; omega))
        clear hl2
        go_wp2_with (go_at_call 23; first
          | (with_reducible refine (W1.out _ hb' hbe').mono ?_; rintro e w'' ⟨rfl, hb'', hbe''⟩)
          | (with_reducible refine W0.out.mono ?_; rintro e w' ⟨rfl, hb', hbe'⟩; have hti' := (hbe'.cell hB').trans hti.out))
        go_round
        case rel =>
          refine ⟨i + 1, by simp, by omega, ?_, (hbe.trans hbe').trans hbe''⟩
          rw [hjn, if_neg h0, cells_append, cells_append, ← List.append_assoc, ← List.append_assoc]
          exact .inr hb''
        case measure => simp [intOf]; omega
    · have hieq : i = n := by omega
      subst hieq
      go_wp2
      go_end0
      exact ⟨rfl, hb, hbe⟩

theorem txt_cells (s m l : ByteArray) : Lib.byteCells (txt s m l).data.toList = ((((([] ++ Lib.strCells s) ++ [.int .u8 46]) ++ Lib.strCells m) ++ [.int .u8 40]) ++ Lib.strCells l) ++ [.int .u8 41] := by
  rw [txt_list]
  simp [Lib.byteCells, Lib.strCells]
theorem txt_schema (s m l : ByteArray) : (txt s m l).extract 0 s.size = s :=
  ext_mid 0 _ [] s _ (by rw [txt_list]; simp; rfl) rfl (by rw [Nat.zero_add]; rfl)
theorem txt_name (s m l : ByteArray) : ((txt s m l).extract (s.size + 1) (txt s m l).size).extract 0 m.size = m := by
  have e : ((txt s m l).extract (s.size + 1) (txt s m l).size).data.toList = m.data.toList ++ (40 :: l.data.toList ++ [41]) := by
    rw [ByteArray.data_extract, Array.toList_extract, txt_list]
    have hl : s.data.toList.length = s.size := by simp
    have : (txt s m l).size = (s.data.toList ++ 46 :: m.data.toList ++ 40 :: l.data.toList ++ [41]).length := by rw [txt_size]; simp; omega
    rw [this]
    simp only [List.extract, List.append_assoc, List.cons_append]
    rw [show s.data.toList ++ 46 :: (m.data.toList ++ 40 :: (l.data.toList ++ [41])) = (s.data.toList ++ [46]) ++ (m.data.toList ++ 40 :: (l.data.toList ++ [41])) by simp]
    rw [List.take_of_length_le (by simp), List.drop_left' (by simp)]
  exact ext_mid 0 _ [] m _ e rfl (by rw [Nat.zero_add]; rfl)
theorem txt_back (s m l : ByteArray) : (⟨(txt s m l).data.toList.toArray⟩ : ByteArray) = txt s m l := by
  simp
end Go.Proofs.YbulkzmgFmt.Sc
