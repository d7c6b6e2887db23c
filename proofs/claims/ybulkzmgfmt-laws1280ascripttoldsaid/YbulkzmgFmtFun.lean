import Derived.Test.YbulkzmgFmtCat4
namespace Go.Proofs.YbulkzmgFmt.Sc
open Go.RowKit Go.Extern.Stop Go.Stop Go.Extern
set_option linter.unusedVariables false

def Good (s m n : Nat) (ka : Nat → Nat) (r : Nat) : Prop := s < 3 ∧ m < 2 ∧ n ≤ 100 ∧ r < 7 ∧ ∀ j, j < n → ka j < 7
def Dup (g : Gh) (s m n : Nat) (ka : Nat → Nat) : Prop := ∃ ψ ∈ g.fs, ψ.s = s ∧ ψ.m = m ∧ ψ.n = n ∧ ψ.li = jn ka n

/-- What AddFunction leaves where it fails. -/
def Failed (g : Gh) (b3 : Bool) (w : World) (e : Ending) (w' : World) : Prop :=
  ∃ t a g', e = .returned (.tuple #[.pointer none, .iface t (.pointer (some a))]) ∧ Cat w' g' b3 ∧ Ext w g g' ∧ g'.fs = g.fs ∧ g'.ks = g.ks ∧ KC (fun b _ => g.kd b ≠ 0) w w'
/-- .. where it succeeds. -/
def Made (g : Gh) (s m n : Nat) (ka : Nat → Nat) (r : Nat) (w : World) (e : Ending) (w' : World) : Prop :=
  ∃ φ g' b3', e = .returned (.tuple #[.pointer (some φ.ad), .nilIface]) ∧ Cat w' g' b3' ∧ Ext w g g' ∧ g'.fs = g.fs ++ [φ] ∧ (φ.s = s ∧ φ.m = m ∧ φ.n = n ∧ φ.ka = ka ∧ φ.r = r) ∧
    (((∃ j, j < g.ks.length ∧ g.key j = (m, n)) ∧ g'.ks = g.ks) ∨ ((∀ j, j < g.ks.length → g.key j ≠ (m, n)) ∧ g'.ks = g.ks ++ [(m, n)])) ∧ (s = 2 → b3' = true) ∧ KC (fun b _ => g.kd b ≠ 0) w w'
def AddPost (g : Gh) (b3 : Bool) (s m n : Nat) (ka : Nat → Nat) (r : Nat) (w : World) (e : Ending) (w' : World) : Prop :=
  ((¬ Good s m n ka r ∨ Dup g s m n ka) ∧ Failed g b3 w e w') ∨ (Good s m n ka r ∧ ¬ Dup g s m n ka ∧ Made g s m n ka r w e w')

theorem Cat.nob {w w' : World} {g : Gh} {b3 : Bool} (h : Cat w g b3) (k : KC nob w w') : Cat w' g b3 :=
  h.top k (fun _ _ => id) (fun _ _ e => e.elim) (h.body.nob k) ⟨rfl, rfl, rfl, rfl, rfl, fun _ _ => rfl⟩ rfl rfl rfl
theorem PT.kc {w w' : World} (h : PT w) (k : KC nob w w') : PT w' := fun c hc => k.cell _ _ _ id (h c hc)
theorem Failed.nob {w w' w'' : World} {g : Gh} {b3 : Bool} {t : TypeId} {a : Addr} {g' : Gh} (h : Cat w' g' b3) (e : Ext w g g') (e1 : g'.fs = g.fs) (e2 : g'.ks = g.ks) (k : KC (fun b _ => g.kd b ≠ 0) w w') (k' : KC Sc.nob w' w'') : Failed g b3 w (.returned (.tuple #[.pointer none, .iface t (.pointer (some a))])) w'' :=
  ⟨t, a, g', rfl, h.nob k', e, e1, e2, k.trans k'.any⟩

set_option maxRecDepth 20000 in
set_option maxHeartbeats 800000 in
theorem add5_schema (F : Interp) {w : World} {g : Gh} {b3 : Bool} (h : Cat w g b3) (hF : F.answers w.tape) (hP : PT w) (s : Nat) (m : ByteArray) (av : Value) (r : ByteArray) (hs : 3 ≤ s) (hs5 : s < 5) :
    Calls Ybaf.prog 5 #[.pointer (some ⟨g.cb, 0, none⟩), .string (scN s), .string m, av, .string r] w (Failed g b3 w) := by
  have H := toHid (fun what => check_schema_bad F what s w hF hP hs hs5)
  have hfin := toHid (fun (w' : World) (t : TypeId) (a : Addr) (k : KC nob w w') => Failed.nob (t := t) (a := a) h (Ext.refl w g) rfl rfl (KC.refl _ w) k)
  replace h := toHid h
  generalize scN s = sc at H
  go_enter Ybaf.func5, Ybaf.ntmps5
  go_wp2_with (go_at_call 8; refine (H.out _).mono ?_; rintro e w' ⟨a, rfl, hk⟩; replace hk := toHid hk)
  go_ret2
  exact hfin.out _ _ _ hk.out

set_option maxRecDepth 20000 in
set_option maxHeartbeats 800000 in
theorem add5_name (F : Interp) {w : World} {g : Gh} {b3 : Bool} (h : Cat w g b3) (hF : F.answers w.tape) (hP : PT w) (s : Nat) (av : Value) (r : ByteArray) (hs : s < 3) :
    Calls Ybaf.prog 5 #[.pointer (some ⟨g.cb, 0, none⟩), .string (scN s), .string (nmN 2), av, .string r] w (Failed g b3 w) := by
  have H := toHid (fun what => check_schema_ok what s w hP hs)
  have H2 := toHid (fun (w1 : World) (k1 : KC nob w w1) what => check_name_bad F what w1 (k1.ans hF) (hP.kc k1))
  have hfin := toHid (fun (w' : World) (t : TypeId) (a : Addr) (k : KC nob w w') => Failed.nob (t := t) (a := a) h (Ext.refl w g) rfl rfl (KC.refl _ w) k)
  replace h := toHid h
  generalize scN s = sc at H
  generalize nmN 2 = nm at H2
  go_enter Ybaf.func5, Ybaf.ntmps5
  go_wp2_with (go_at_call 8; first
    | (with_reducible refine (H2.out _ k1.out _).mono ?_; rintro e w' ⟨a, rfl, hk⟩; replace hk := toHid hk)
    | (with_reducible refine (H.out _).mono ?_; rintro e w1 ⟨rfl, k1⟩; replace k1 := toHid k1))
  go_ret2
  exact hfin.out _ _ _ (k1.out.trans hk.out)

set_option maxRecDepth 20000 in
set_option maxHeartbeats 800000 in
theorem add5_count (F : Interp) {w : World} {g : Gh} {b3 : Bool} (h : Cat w g b3) (hF : F.answers w.tape) (hP : PT w) (s m n : Nat) (a : Option Addr) (cap : Nat) (r : ByteArray) (hs : s < 3) (hm : m < 2) (hn : 100 < n) (hn2 : n ≤ 256) :
    Calls Ybaf.prog 5 #[.pointer (some ⟨g.cb, 0, none⟩), .string (scN s), .string (nmN m), .slice a n cap, .string r] w (Failed g b3 w) := by
  have H := toHid (fun what => check_schema_ok what s w hP hs)
  have H2 := toHid (fun (w1 : World) (k1 : KC nob w w1) what => check_name_ok what m w1 (hP.kc k1) hm)
  have hfin := toHid (fun (w' : World) (t : TypeId) (a : Addr) (k : KC nob w w') => Failed.nob (t := t) (a := a) h (Ext.refl w g) rfl rfl (KC.refl _ w) k)
  have HE := toHid (fun (w2 : World) (k2 : KC nob w w2) => errorf_cnt F w2.heap.size (scN s) (nmN m) n 100 (w2.alloc (.cells #[.iface 9 (.string (scN s)), .iface 9 (.string (nmN m)), .iface 3 (.int .i64 n), .iface 3 (.int .i64 100)] 20)) (k2.ans hF) (cell_of_row _ _ _ _ _ _ (heap_alloc_new _ _)) (cell_of_row _ _ _ _ _ _ (heap_alloc_new _ _)) (cell_of_row _ _ _ _ _ _ (heap_alloc_new _ _)) (cell_of_row _ _ _ _ _ _ (heap_alloc_new _ _)))
  replace h := toHid h
  generalize scN s = sc at H HE
  generalize nmN m = nm at H2 HE
  go_enter Ybaf.func5, Ybaf.ntmps5
  go_wp2_with first
    | (go_at_call 8; first
      | (with_reducible refine (H2.out _ k1.out _).mono ?_; rintro e w2 ⟨rfl, k2⟩; have k2' := toHid (k1.out.trans k2); clear k2)
      | (with_reducible refine (H.out _).mono ?_; rintro e w1 ⟨rfl, k1⟩; replace k1 := toHid k1))
    | (go_at_call 9; refine (HE.out _ k2'.out).mono ?_; rintro e w' ⟨a, rfl, hk⟩; replace hk := toHid hk)
  go_ret2
  exact hfin.out _ _ _ ((k2'.out.alloc _).trans hk.out)
end Go.Proofs.YbulkzmgFmt.Sc
