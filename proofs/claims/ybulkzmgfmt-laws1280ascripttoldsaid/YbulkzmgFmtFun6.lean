import Derived.Test.YbulkzmgFmtFun5
namespace Go.Proofs.YbulkzmgFmt.Sc
open Go.RowKit Go.Extern.Stop Go.Stop Go.Extern
set_option linter.unusedVariables false

/-- AddFunction, at whatever step of the law. -/
theorem add5 (F : Interp) {w : World} {g : Gh} {b3 : Bool} (h : Cat w g b3) (hF : F.answers w.tape) (hP : PT w) (s m n r : Nat) (ka : Nat → Nat) (gb : Nat) (hs : s < 5) (hm : m < 3) (hn : n ≤ 256) (hr : r < 8) (hka : ∀ j, j < n → ka j < 8) (hA : ∀ j, j < n → w.cell? ⟨gb, 0 + j, none⟩ = some (.string (tyN (ka j)))) (hgb : g.kd gb = 0) (hfs : g.fs.length ≤ 255) :
    Calls Ybaf.prog 5 #[.pointer (some ⟨g.cb, 0, none⟩), .string (scN s), .string (nmN m), .slice (some ⟨gb, 0, none⟩) n n, .string (tyN r)] w (AddPost g b3 s m n ka r w) := by
  by_cases h1 : s < 3
  · by_cases h2 : m < 2
    · by_cases h3 : n ≤ 100
      · by_cases h4 : n = 0
        · subst h4
          exact add5_none F h hF hP s m r ka _ _ h1 h2 hr hfs
        · exact add5_args F h hF hP s m n r ka gb 0 n h1 h2 (by omega) h3 hr hka hA hgb hfs
      · exact (add5_count F h hF hP s m n _ n (tyN r) h1 h2 (by omega) hn).mono fun e w' q => .inl ⟨.inl (fun hg => h3 hg.2.2.1), q⟩
    · have : m = 2 := by omega
      subst this
      exact (add5_name F h hF hP s _ (tyN r) h1).mono fun e w' q => .inl ⟨.inl (fun hg => h2 hg.2.1), q⟩
  · exact (add5_schema F h hF hP s _ _ (tyN r) (by omega) hs).mono fun e w' q => .inl ⟨.inl (fun hg => h1 hg.1), q⟩

/-! ### The law's own strings -/

/-- schema + 0 + name + 0 + list -/
def keyS' (s m l : ByteArray) : ByteArray := s ++ ⟨#[0]⟩ ++ m ++ ⟨#[0]⟩ ++ l

theorem app0_inj (a b c d : List UInt8) (ha : (0 : UInt8) ∉ a) (hb : (0 : UInt8) ∉ b) (h : a ++ 0 :: c = b ++ 0 :: d) : a = b ∧ c = d := by
  induction a generalizing b with
  | nil =>
    cases b with
    | nil => simp at h; exact ⟨rfl, h⟩
    | cons y b => simp at h; exact absurd (by simp [h.1]) hb
  | cons x a ih =>
    cases b with
    | nil => simp at h; exact absurd (by simp [h.1]) ha
    | cons y b =>
      simp only [List.cons_append, List.cons.injEq] at h
      obtain ⟨h1, h2⟩ := ih b (fun q => ha (by simp [q])) (fun q => hb (by simp [q])) h.2
      exact ⟨by rw [h.1, h1], h2⟩
theorem keyS_inj {s s' m m' : Nat} {l l' : ByteArray} (h : keyS' (scN s) (nmN m) l = keyS' (scN s') (nmN m') l') (hs : s < 3) (hs' : s' < 3) (hm : m < 2) (hm' : m' < 2) : s = s' ∧ m = m' ∧ l = l' := by
  have hl := congrArg (fun x : ByteArray => x.data.toList) h
  simp only [keyS', ByteArray.data_append, Array.toList_append, List.append_assoc, List.cons_append, List.nil_append] at hl
  have z : ∀ i : Fin 3, (0 : UInt8) ∉ (scN i.val).data.toList := by decide +kernel
  have z' : ∀ i : Fin 2, (0 : UInt8) ∉ (nmN i.val).data.toList := by decide +kernel
  obtain ⟨h1, h2⟩ := app0_inj _ _ _ _ (z ⟨s, hs⟩) (z ⟨s', hs'⟩) hl
  obtain ⟨h3, h4⟩ := app0_inj _ _ _ _ (z' ⟨m, hm⟩) (z' ⟨m', hm'⟩) h2
  have i1 : ∀ a b : Fin 3, (scN a.val).data.toList = (scN b.val).data.toList → a = b := by decide +kernel
  have i2 : ∀ a b : Fin 2, (nmN a.val).data.toList = (nmN b.val).data.toList → a = b := by decide +kernel
  have e1 := i1 ⟨s, hs⟩ ⟨s', hs'⟩ h1
  have e2 := i2 ⟨m, hm⟩ ⟨m', hm'⟩ h3
  simp only [Fin.mk.injEq] at e1 e2
  exact ⟨e1, e2, Go.WideShapes.bytes_inj h4⟩

/-- The commas of a joined list tell how many it joins. -/
def commas (l : ByteArray) : Nat := l.data.toList.count 44
theorem commas_ty : ∀ k : Fin 8, commas (tyN k.val) = 0 ∧ (tyN k.val).size ≠ 0 := by decide +kernel
theorem tyN_big (k : Nat) (h : 8 ≤ k) : tyN k = tyN 7 := by
  unfold tyN
  repeat rw [if_neg (by omega)]
theorem commas_ty' (k : Nat) : commas (tyN k) = 0 ∧ (tyN k).size ≠ 0 := by
  by_cases h : k < 8
  · exact commas_ty ⟨k, h⟩
  · rw [tyN_big k (by omega)]; exact commas_ty ⟨7, by omega⟩
theorem commas_app (a b : ByteArray) : commas (a ++ b) = commas a + commas b := by
  simp [commas]
theorem commas_jn (ka : Nat → Nat) : ∀ n, commas (jn ka (n + 1)) = n
  | 0 => by
    have := (commas_ty' (ka 0)).1
    simp only [jn, if_true, commas_app, this]
    rfl
  | n + 1 => by
    have h1 := commas_jn ka n
    have h2 := (commas_ty' (ka (n + 1))).1
    rw [jn, if_neg (by omega), commas_app, commas_app, h1, h2]
    rfl
theorem jn_len {ka ka' : Nat → Nat} {n n' : Nat} (h : jn ka n = jn ka' n') : n = n' := by
  have hs := congrArg (fun x : ByteArray => x.size) h
  have hc := congrArg commas h
  have pos : ∀ (ka : Nat → Nat) i, (jn ka (i + 1)).size ≠ 0 := fun ka i => by
    have := (commas_ty' (ka i)).2
    rw [jn, ByteArray.size_append]
    omega
  have z : ∀ ka : Nat → Nat, (jn ka 0).size = 0 := fun ka => rfl
  cases n with
  | zero =>
    cases n' with
    | zero => rfl
    | succ n' => simp only [z] at hs; exact absurd hs.symm (pos ka' n')
  | succ n =>
    cases n' with
    | zero => simp only [z] at hs; exact absurd hs (pos ka n)
    | succ n' => rw [commas_jn, commas_jn] at hc; omega

def Fn.key (φ : Fn) : ByteArray := keyS' (scN φ.s) (nmN φ.m) φ.li
/-- The law's key is among the keys just where the catalog holds such a function. -/
theorem dup_key {w : World} {g : Gh} (h : CatB w g) {s m n : Nat} {ka : Nat → Nat} (hs : s < 3) (hm : m < 2) : keyS' (scN s) (nmN m) (jn ka n) ∈ g.fs.map Fn.key ↔ Dup g s m n ka := by
  constructor
  · intro q
    obtain ⟨ψ, hψ, e⟩ := List.mem_map.1 q
    have f := (h.fns ψ hψ).bd
    obtain ⟨e1, e2, e3⟩ := keyS_inj e f.1 hs f.2.1 hm
    exact ⟨ψ, hψ, e1, e2, jn_len e3, e3⟩
  · rintro ⟨ψ, hψ, e1, e2, e3, e4⟩
    exact List.mem_map.2 ⟨ψ, hψ, by unfold Fn.key; rw [e1, e2, e4]⟩
end Go.Proofs.YbulkzmgFmt.Sc
