import Derived.Test.YbulkzmgFmtBase
import Derived.Lib.Props
import Derived.Lib.OthersKept
import Derived.Lib.TrimU
import Derived.Deep.LoopGhost
namespace Go.Proofs.YbulkzmgFmt.Sc
open Go.RowKit Go.Extern.Stop Go.Stop Go.Extern
set_option linter.unusedVariables false

/-- unicode.properties, as laid, its first 128 cells. -/
def PT (w : World) : Prop := ∀ c : Nat, c < 128 → w.cell? ⟨1, c, none⟩ = some (.int .u8 (Lib.propertiesTab.getD c 0))

theorem PT.below {w w' : World} (h : PT w) (hb : Below w.heap.size w w') : PT w' := fun c hc => (hb.cell (block_lt_of_cell (h c hc))).trans (h c hc)

def isSp (c : Nat) : Bool := c == 9 || c == 10 || c == 11 || c == 12 || c == 13 || c == 32
def isCt (c : Nat) : Bool := decide (c < 32) || c == 127
def isBad (c : Nat) : Bool := isSp c || isCt c

theorem tab_ct : ∀ c : Fin 128, (bits .and .u8 (Lib.propertiesTab.getD c.val 0) 1 == 0) = !isCt c.val := by decide +kernel

set_option maxHeartbeats 800000 in
theorem space17 (c : Nat) (w : World) (hc : c < 128) : Calls Ybaf.prog 17 #[.int .i32 (c : Int)] w fun e w' => e = .returned (.bool (isSp c)) ∧ w' = w := by
  go_enter Ybaf.func17, Ybaf.ntmps17
  go_wp2
  all_goals (go_ret; refine ⟨?_, rfl⟩; simp only [beq_iff_eq, beq_eq_false_iff_ne, ne_eq] at *; simp [isSp]; omega)

set_option maxHeartbeats 800000 in
theorem control18 (c : Nat) (w : World) (hc : c < 128) (hP : PT w) : Calls Ybaf.prog 18 #[.int .i32 (c : Int)] w fun e w' => e = .returned (.bool (isCt c)) ∧ w' = w := by
  have h1 := hP c hc
  have h2 := tab_ct ⟨c, hc⟩
  simp only at h2
  generalize Lib.propertiesTab.getD c 0 = pv at h1 h2
  go_enter Ybaf.func18, Ybaf.ntmps18
  go_wp2
  go_ret
  refine ⟨?_, rfl⟩
  simp [bne, h2]

set_option maxHeartbeats 800000 in
theorem bad16 (c : Nat) (w : World) (hc : c < 128) (hP : PT w) : Calls Ybaf.prog 16 #[.int .i32 (c : Int)] w fun e w' => e = .returned (.bool (isBad c)) ∧ w' = w := by
  have HS := toHid (space17 c w hc)
  have HC := toHid (control18 c w hc hP)
  unfold isBad
  cases h : isSp c
  · rw [h] at HS
    go_enter Ybaf.func16, Ybaf.ntmps16
    go_wp2_with first | (go_at_call 17; refine HS.out.mono ?_; rintro e w' ⟨rfl, rfl⟩) | (go_at_call 18; refine HC.out.mono ?_; rintro e w' ⟨rfl, rfl⟩)
    go_ret
    exact ⟨by simp, rfl⟩
  · rw [h] at HS
    go_enter Ybaf.func16, Ybaf.ntmps16
    go_wp2_with first | (go_at_call 17; refine HS.out.mono ?_; rintro e w' ⟨rfl, rfl⟩) | (go_at_call 18; refine HC.out.mono ?_; rintro e w' ⟨rfl, rfl⟩)
    go_ret
    exact ⟨by simp, rfl⟩

/-- Where the first bad rune of s begins, from place pos on, by at most so many runes. -/
def idxFrom (s : ByteArray) : Nat → Nat → Int
  | 0, _ => -1
  | f + 1, pos => if pos < s.size then (if isBad (Utf8.decode s pos).1 = true then (pos : Int) else idxFrom s f (pos + (Utf8.decode s pos).2)) else -1
theorem idxFrom_end (s : ByteArray) (f pos : Nat) (h : ¬ pos < s.size) : idxFrom s f pos = -1 := by cases f <;> simp [idxFrom, h]

set_option maxHeartbeats 2000000 in
set_option maxRecDepth 100000 in
theorem index30 (s : ByteArray) (w : World) (hP : PT w) (hs : ∀ pos, pos < s.size → (Utf8.decode s pos).1 < 128) :
    Calls Ybaf.prog 30 #[.string s, .func (.func 16) #[] #[], .bool true] w fun e w' => e = .returned (.int .i64 (idxFrom s s.size 0)) ∧ Below w.heap.size w w' := by
  have hP := toHid hP
  have hs := toHid hs
  go_enter Ybaf.func30, Ybaf.ntmps30
  go_wp2
  go_loopg [] s.size (fun gf wx => ∃ pos : Nat, wx.heap[w.heap.size]? = some (.stringIter s pos) ∧ Below w.heap.size w wx ∧ idxFrom s gf pos = idxFrom s s.size 0 ∧ s.size ≤ pos + gf)
  case atStart => exact ⟨0, World.iter_heap w s 0, (Below.refl _ w).alloc (Nat.le_refl _) _, rfl, by omega⟩
  case round =>
    obtain ⟨pos, hit, hbw, hleft, hfu⟩ := hrel
    by_cases hps : pos < s.size
    · obtain ⟨g', rfl⟩ : ∃ g', gk = g' + 1 := ⟨gk - 1, by omega⟩
      have hnx : ∀ ty, (Instr.next (.pointer (some ⟨w.heap.size, 0, none⟩)) true ty).run Ybaf.prog wr = _ := fun ty => Lib.run_next_any_at wr w.heap.size s pos ty hit hps
      have hwd := Lib.width_pos s pos
      have hR128 := hs.out pos hps
      obtain ⟨R, hR⟩ : ∃ R, (Utf8.decode s pos).1 = R := ⟨_, rfl⟩
      obtain ⟨K, hK⟩ : ∃ K, (Utf8.decode s pos).2 = K := ⟨_, rfl⟩
      simp only [idxFrom, hps, if_true, hR, hK] at hleft
      rw [hR, hK] at hnx
      rw [hK] at hwd
      rw [hR] at hR128
      have hit2 := Lib.iterAt_heap wr w.heap.size s pos (pos + K) hit
      have hbw2 := Lib.below_iterAt hbw (k := w.heap.size) (Nat.le_refl _) s (pos + K)
      obtain ⟨W, hWd⟩ : ∃ W, wr.iterAt w.heap.size s (pos + K) = W := ⟨_, rfl⟩
      rw [hWd] at hnx hit2 hbw2
      have cS := toHid (bad16 R W hR128 (hP.out.below hbw2))
      cases hsp : isBad R <;> rw [hsp] at cS <;> simp only [hsp, if_true, Bool.false_eq_true, if_false] at hleft
      · go_wp2_with (go_at_call 16; refine cS.out.mono ?_; rintro e W' ⟨rfl, rfl⟩)
        go_roundg g'
        case measure => omega
        case rel => exact ⟨pos + K, hit2, hbw2, hleft, by omega⟩
      · go_wp2_with (go_at_call 16; refine cS.out.mono ?_; rintro e W' ⟨rfl, rfl⟩)
        go_ret
        exact ⟨by rw [← hleft] <;> rfl, hbw2⟩
    · have hnx : ∀ ty, (Instr.next (.pointer (some ⟨w.heap.size, 0, none⟩)) true ty).run Ybaf.prog wr = _ := fun ty => Lib.run_next_end_at wr w.heap.size s pos ty hit hps
      rw [idxFrom_end s gk pos hps] at hleft
      go_wp2
      go_ret
      exact ⟨by rw [← hleft] <;> rfl, hbw⟩

set_option maxHeartbeats 800000 in
theorem index15 (s : ByteArray) (w : World) (hP : PT w) (hs : ∀ pos, pos < s.size → (Utf8.decode s pos).1 < 128) :
    Calls Ybaf.prog 15 #[.string s, .func (.func 16) #[] #[]] w fun e w' => e = .returned (.int .i64 (idxFrom s s.size 0)) ∧ Below w.heap.size w w' := by
  have HI := toHid (index30 s w hP hs)
  go_enter Ybaf.func15, Ybaf.ntmps15
  go_wp2_with (go_at_call 30; refine HI.out.mono ?_; rintro e w' ⟨rfl, hb⟩)
  go_ret
  exact ⟨rfl, hb⟩

set_option maxHeartbeats 800000 in
theorem check_ok (what s : ByteArray) (w : World) (hP : PT w) (hs : ∀ pos, pos < s.size → (Utf8.decode s pos).1 < 128) (h0 : s.toList.isEmpty = false) (hi : idxFrom s s.size 0 = -1) :
    Calls Ybaf.prog 8 #[.string what, .string s] w fun e w' => e = .returned .nilIface ∧ KC nob w w' := by
  have HI := index15 s w hP hs
  rw [hi] at HI
  have HI := toHid HI
  go_enter Ybaf.func8, Ybaf.ntmps8
  go_wp2_with first | (go_at_call 15; refine HI.out.mono ?_; rintro e w' ⟨rfl, hb⟩)
  go_ret
  exact ⟨rfl, KC.ofBelow hb⟩

set_option maxHeartbeats 800000 in
theorem check_bad (F : Interp) (what s : ByteArray) (w : World) (hF : F.answers w.tape) (hP : PT w) (hs : ∀ pos, pos < s.size → (Utf8.decode s pos).1 < 128) (h0 : s.toList.isEmpty = false) (i : Nat) (hi : idxFrom s s.size 0 = i) :
    Calls Ybaf.prog 8 #[.string what, .string s] w fun e w' => ∃ a, e = .returned (.iface 110 (.pointer (some a))) ∧ KC nob w w' := by
  have HI := index15 s w hP hs
  rw [hi] at HI
  have HI := toHid HI
  have HE := toHid (fun (w1 : World) (hb : Below w.heap.size w w1) => errorf_ctl F w1.heap.size what s (w1.alloc (.cells #[.iface 9 (.string what), .iface 9 (.string s)] 20)) (by show F.answers w1.tape; rw [hb.tape]; exact hF) (cell_of_row _ _ _ _ _ _ (heap_alloc_new _ _)) (cell_of_row _ _ _ _ _ _ (heap_alloc_new _ _)))
  go_enter Ybaf.func8, Ybaf.ntmps8
  go_wp2_with first | (go_at_call 15; refine HI.out.mono ?_; rintro e w' ⟨rfl, hb⟩) | (go_at_call 9; refine (HE.out _ hb).mono ?_; rintro e w'' ⟨a, rfl, hK⟩)
  go_ret
  exact ⟨_, rfl, ((KC.ofBelow hb).alloc _).trans hK⟩

set_option maxHeartbeats 800000 in
theorem check_empty (F : Interp) (what : ByteArray) (w : World) (hF : F.answers w.tape) :
    Calls Ybaf.prog 8 #[.string what, .string ⟨#[]⟩] w fun e w' => ∃ a, e = .returned (.iface 110 (.pointer (some a))) ∧ KC nob w w' := by
  have HE := toHid (errorf_empty F w.heap.size what (w.alloc (.cells #[.iface 9 (.string what)] 20)) hF (cell_of_row _ _ _ _ _ _ (heap_alloc_new _ _)))
  go_enter Ybaf.func8, Ybaf.ntmps8
  go_wp2_with first | (go_at_call 9; refine HE.out.mono ?_; rintro e w'' ⟨a, rfl, hK⟩)
  go_ret
  exact ⟨_, rfl, ((KC.refl _ w).alloc _).trans hK⟩

/-- The law's tables. -/
def scN (s : Nat) : ByteArray := if s = 0 then ⟨#[112, 103, 95, 99, 97, 116, 97, 108, 111, 103]⟩ else if s = 1 then ⟨#[112, 117, 98, 108, 105, 99]⟩ else if s = 2 then ⟨#[115, 49]⟩ else if s = 3 then ⟨#[109, 121, 32, 115, 99, 104, 101, 109, 97]⟩ else ⟨#[]⟩
def nmN (m : Nat) : ByteArray := if m = 0 then ⟨#[102]⟩ else if m = 1 then ⟨#[103]⟩ else ⟨#[104, 1]⟩
def tyN (k : Nat) : ByteArray := if k = 0 then ⟨#[105, 110, 116, 52]⟩ else if k = 1 then ⟨#[116, 101, 120, 116]⟩ else if k = 2 then ⟨#[98, 111, 111, 108]⟩ else if k = 3 then ⟨#[105, 110, 116, 52, 91, 93]⟩ else if k = 4 then ⟨#[110, 117, 109, 101, 114, 105, 99]⟩ else if k = 5 then ⟨#[100, 97, 116, 101]⟩ else if k = 6 then ⟨#[110, 97, 109, 101]⟩ else ⟨#[110, 111, 112, 101]⟩

theorem dec_all {s : ByteArray} (n : Nat) (hn : s.size = n) (h : ∀ pos : Fin n, (Utf8.decode s pos.val).1 < 128) : ∀ pos, pos < s.size → (Utf8.decode s pos).1 < 128 := fun pos hp => h ⟨pos, by omega⟩

/-- checkName at a schema of the table. -/
theorem check_schema_ok (what : ByteArray) (s : Nat) (w : World) (hP : PT w) (hs : s < 3) : Calls Ybaf.prog 8 #[.string what, .string (scN s)] w fun e w' => e = .returned .nilIface ∧ KC nob w w' := by
  have : s = 0 ∨ s = 1 ∨ s = 2 := by omega
  rcases this with rfl | rfl | rfl
  · exact check_ok what _ w hP (dec_all 10 rfl (by decide +kernel)) (by decide +kernel) (by decide +kernel)
  · exact check_ok what _ w hP (dec_all 6 rfl (by decide +kernel)) (by decide +kernel) (by decide +kernel)
  · exact check_ok what _ w hP (dec_all 2 rfl (by decide +kernel)) (by decide +kernel) (by decide +kernel)
theorem check_schema_bad (F : Interp) (what : ByteArray) (s : Nat) (w : World) (hF : F.answers w.tape) (hP : PT w) (hs : 3 ≤ s) (hs5 : s < 5) : Calls Ybaf.prog 8 #[.string what, .string (scN s)] w fun e w' => ∃ a, e = .returned (.iface 110 (.pointer (some a))) ∧ KC nob w w' := by
  have : s = 3 ∨ s = 4 := by omega
  rcases this with rfl | rfl
  · exact check_bad F what _ w hF hP (dec_all 9 rfl (by decide +kernel)) (by decide +kernel) 2 (by decide +kernel)
  · exact check_empty F what w hF
theorem check_name_ok (what : ByteArray) (m : Nat) (w : World) (hP : PT w) (hm : m < 2) : Calls Ybaf.prog 8 #[.string what, .string (nmN m)] w fun e w' => e = .returned .nilIface ∧ KC nob w w' := by
  have : m = 0 ∨ m = 1 := by omega
  rcases this with rfl | rfl
  · exact check_ok what _ w hP (dec_all 1 rfl (by decide +kernel)) (by decide +kernel) (by decide +kernel)
  · exact check_ok what _ w hP (dec_all 1 rfl (by decide +kernel)) (by decide +kernel) (by decide +kernel)
theorem check_name_bad (F : Interp) (what : ByteArray) (w : World) (hF : F.answers w.tape) (hP : PT w) : Calls Ybaf.prog 8 #[.string what, .string (nmN 2)] w fun e w' => ∃ a, e = .returned (.iface 110 (.pointer (some a))) ∧ KC nob w w' :=
  check_bad F what _ w hF hP (dec_all 2 rfl (by decide +kernel)) (by decide +kernel) 1 (by decide +kernel)
end Go.Proofs.YbulkzmgFmt.Sc
