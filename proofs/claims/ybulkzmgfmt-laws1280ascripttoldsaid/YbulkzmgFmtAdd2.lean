import Derived.Test.YbulkzmgFmtAdd
namespace Go.Proofs.YbulkzmgFmt.Sc
open Go.RowKit Go.Extern.Stop Go.Stop Go.Extern
set_option linter.unusedVariables false

theorem HasL.size {w : World} {a : Addr} {l : ByteArray} (h : HasL w a l) : l.size ≤ maxLen := by
  obtain ⟨b, o, s, m, rfl, h0, h1, h4, hs⟩ := h
  unfold maxLen; omega

/-- The entries of an argLists map. -/
def AL (l : Nat → ByteArray) (n : Nat) : List (Value × Value) := (List.range n).map fun j => (.string (l j), .bool true)

theorem AL_good {w : World} {f : Nat → Addr} {l : Nat → ByteArray} {n : Nat} (hl : ∀ j, j < n → HasL w (f j) (l j)) : ∀ p ∈ AL l n, strKey p.1 := by
  intro p hp
  obtain ⟨j, hj, rfl⟩ := List.mem_map.1 hp
  exact ⟨_, rfl, (hl j (by simpa using hj)).size⟩
theorem AL_some {w W : World} {f : Nat → Addr} {l : Nat → ByteArray} {n mb : Nat} {k : ByteArray} {p : Addr} (hl : ∀ j, j < n → HasL w (f j) (l j)) (hk : HasL w p k) (hm : MapE W mb (AL l n)) (hd : ∃ j, j < n ∧ l j = k) :
    (Instr.lookup 33 (.map (some mb)) (.string k) false).run Ybaf.prog W = .ok (.bool true) W := by
  obtain ⟨j, hj, rfl⟩ := hd
  have := hm.look_some strOK Ybaf.underlying33 (AL_good hl) (key := .string (l j)) (v := .bool true) ⟨_, rfl, hk.size⟩ (List.mem_map.2 ⟨j, by simpa using hj, rfl⟩)
    (fun v' hv => by
      obtain ⟨j', _, he⟩ := List.mem_map.1 hv
      simp only [Prod.mk.injEq] at he
      exact he.2.symm) false
  simpa using this
theorem AL_no {l : Nat → ByteArray} {n : Nat} {k : ByteArray} (hd : ∀ j, j < n → l j ≠ k) : ∀ p ∈ AL l n, p.1 ≠ .string k := by
  intro p hp e
  obtain ⟨j, hj, rfl⟩ := List.mem_map.1 hp
  simp only [Value.string.injEq] at e
  exact hd j (by simpa using hj) e
theorem AL_none {w W : World} {f : Nat → Addr} {l : Nat → ByteArray} {n mb : Nat} {k : ByteArray} {p : Addr} (hl : ∀ j, j < n → HasL w (f j) (l j)) (hk : HasL w p k) (hm : MapE W mb (AL l n)) (hd : ∀ j, j < n → l j ≠ k) :
    (Instr.lookup 33 (.map (some mb)) (.string k) false).run Ybaf.prog W = .ok (.bool false) W := by
  have := hm.look_none strOK Ybaf.underlying33 (AL_good hl) (key := .string k) ⟨_, rfl, hk.size⟩ (AL_no hd) (Ybaf.zeroValue4 W) false
  simpa using this

set_option maxRecDepth 20000 in
set_option maxHeartbeats 1600000 in
/-- add of a function that is there: by the scan. -/
theorem add29_dup (sb so t N cb : Nat) (n b o cap : Nat) (f : Nat → Addr) (l : Nat → ByteArray) (p : Addr) (k : ByteArray) (w : World) (h0 : w.cell? ⟨sb, so, none⟩ = some (.slice (some ⟨b, o, none⟩) n cap)) (h1 : w.cell? ⟨sb, so + 1, none⟩ = some (.map none)) (hsb : Sh w sb t N) (hL : HasL w p k)
    (hv : LV w n f b o cap) (hl : ∀ j, j < n → HasL w (f j) (l j)) (hn : n ≤ 256) (hd : ∃ j, j < n ∧ l j = k) :
    Calls Ybaf.prog 29 #[.pointer (some ⟨sb, so, none⟩), .pointer (some p), .pointer (some ⟨cb, 10, none⟩)] w fun e w' => e = .returned (.bool false) ∧ KC nob w w' := by
  have HA := toHid hL.call
  have HC := toHid (fun (w1 : World) (k1 : KC nob w w1) => contains36 (some ⟨b, o, none⟩) cap n w1.heap.size f l k (w1.alloc (.cells #[.string k] 9)) (hv.kc (k1.alloc _) (fun _ _ => id)).ptrs (fun j hj => (hl j hj).kc (k1.alloc _) (fun _ => id)) (cell_of_row _ _ _ _ _ _ (heap_alloc_new _ _)) hn)
  have q3 := neq33_nil
  have hc0 := toHid h0
  have hc1 := toHid h1
  clear h0 h1
  replace hL := toHid hL
  replace hl := toHid hl
  replace hv := toHid hv
  replace hd := toHid hd
  replace hsb := toHid hsb
  go_enter Ybaf.func29, Ybaf.ntmps29
  go_wp2_with first
    | (go_at_call 35; refine HA.out.mono ?_; rintro e w1 ⟨rfl, hd1⟩; have k1 : KC nob w w1 := (by obtain ⟨n, rfl⟩ := hd1; exact (KC.refl _ _).drewN n); clear hd1; have a0 := k1.cell _ _ _ id hc0.out; have a1 := k1.cell _ _ _ id hc1.out; have lt1 := (k1.shape _ _ _ hsb.out).lt)
    | (go_at_call 36; refine (HC.out w1 k1).mono ?_; rintro e w2 ⟨r, mm2, rfl, hd2, hr⟩; have hrf : r = true := hr.2 hd.out; subst hrf; clear hr; have k2 : KC nob w w2 := (by rw [hd2]; exact (k1.alloc _).drewN _); clear hd2)
  go_ret
  exact ⟨rfl, k2⟩

set_option maxRecDepth 20000 in
set_option maxHeartbeats 1600000 in
/-- .. by the map. -/
theorem add29_dupm (sb so t N cb mb : Nat) (n : Nat) (lv : Value) (f : Nat → Addr) (l : Nat → ByteArray) (p : Addr) (k : ByteArray) (w : World) (h0 : w.cell? ⟨sb, so, none⟩ = some lv) (h1 : w.cell? ⟨sb, so + 1, none⟩ = some (.map (some mb))) (hsb : Sh w sb t N) (hL : HasL w p k)
    (hm : MapE w mb (AL l n)) (hl : ∀ j, j < n → HasL w (f j) (l j)) (hd : ∃ j, j < n ∧ l j = k) :
    Calls Ybaf.prog 29 #[.pointer (some ⟨sb, so, none⟩), .pointer (some p), .pointer (some ⟨cb, 10, none⟩)] w fun e w' => e = .returned (.bool false) ∧ KC nob w w' := by
  have HA := toHid hL.call
  have HM := toHid (fun (W : World) (kW : KC nob w W) => AL_some hl hL (hm.kc kW (fun _ => id)) hd)
  have q3 := neq33_some
  have hc0 := toHid h0
  have hc1 := toHid h1
  clear h0 h1
  replace hL := toHid hL
  replace hl := toHid hl
  replace hm := toHid hm
  replace hd := toHid hd
  replace hsb := toHid hsb
  go_enter Ybaf.func29, Ybaf.ntmps29
  go_wp2_with (go_at_call 35; refine HA.out.mono ?_; rintro e w1 ⟨rfl, hd1⟩; have k1 : KC nob w w1 := (by obtain ⟨n, rfl⟩ := hd1; exact (KC.refl _ _).drewN n); clear hd1; have a0 := k1.cell _ _ _ id hc0.out; have a1 := k1.cell _ _ _ id hc1.out; have lt1 := (k1.shape _ _ _ hsb.out).lt; have hlk := fun m => HM.out ((w1.alloc (.cells #[.string k] 9)).drewN m) ((k1.alloc _).drewN m))
  go_quiet (fail)
  go_wp2
  go_ret
  exact ⟨rfl, (k1.alloc _).drewN _⟩
end Go.Proofs.YbulkzmgFmt.Sc
