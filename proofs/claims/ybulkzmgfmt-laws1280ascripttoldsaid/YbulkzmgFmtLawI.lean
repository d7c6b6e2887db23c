import Derived.Test.YbulkzmgFmtLawH
import Derived.Deep.CutRange
namespace Go.Proofs.YbulkzmgFmt.Sc
open Go.RowKit Go.Extern.Stop Go.Stop Go.Extern
set_option linter.unusedVariables false
set_option linter.unusedSimpArgs false
theorem pig : ∀ (N : Nat) (L : List Nat), L.Nodup → (∀ x ∈ L, x < N) → L.length ≤ N
  | 0, L, _, h => by
    cases L with
    | nil => simp
    | cons x L => exact absurd (h x (by simp)) (by omega)
  | N + 1, L, hn, h => by
    have h1 := pig N (L.erase N) (hn.erase N) (fun x hx => by
      have := (hn.mem_erase_iff).1 hx
      have := h x this.2
      omega)
    by_cases hm : N ∈ L
    · rw [List.length_erase_of_mem hm] at h1; omega
    · rw [List.erase_of_not_mem hm] at h1; omega
theorem CatB.few {w : World} {g : Gh} (h : CatB w g) : g.ks.length ≤ 202 := by
  have key : ∀ j (hj : j < g.ks.length), g.ks[j] = g.key j := fun j hj => by simp [Gh.key, List.getD, hj]
  have hb : ∀ j (hj : j < g.ks.length), (g.ks[j]).1 < 2 ∧ (g.ks[j]).2 ≤ 100 := fun j hj => by rw [key j hj]; exact h.kbd j hj
  have := pig 202 (g.ks.map fun k => k.1 * 101 + k.2) (by
    rw [List.nodup_iff_pairwise_ne, List.pairwise_iff_getElem]
    intro a b ha hb' hab e
    simp only [List.length_map] at ha hb'
    simp only [List.getElem_map] at e
    have h1 := hb a ha
    have h2 := hb b hb'
    have : g.key a = g.key b := by
      rw [← key a ha, ← key b hb']
      exact Prod.ext (by omega) (by omega)
    have := h.kdis a b ha hb' this
    omega) (fun x hx => by
    obtain ⟨k, hk, rfl⟩ := List.mem_map.1 hx
    obtain ⟨j, hj, rfl⟩ := List.mem_iff_getElem.1 hk
    have := hb j hj
    omega)
  simpa using this

theorem k13_cells {w : World} {B : Nat} {v : Value} {ks : List (Nat × Nat)} (h : w.ownsRow B 63 2 v ks.length (X13 ks)) : ∃ a cap, v = .slice a ks.length cap ∧ (ks.length = 0 ∨ ∃ b, a = some ⟨b, 0, none⟩ ∧ ∀ j, j < ks.length → w.cell? ⟨b, 0 + j * 2, none⟩ = some (.string (nmN (ks.getD j (0, 0)).1)) ∧ w.cell? ⟨b, 0 + j * 2 + 1, none⟩ = some (.int .i64 ((ks.getD j (0, 0)).2 : Nat))) := by
  obtain ⟨a, cap, rfl, h0 | ⟨b, rfl, hc⟩⟩ := ownsRow_form h
  · exact ⟨_, _, rfl, .inl h0⟩
  · refine ⟨_, _, rfl, .inr ⟨b, rfl, fun j hj => ?_⟩⟩
    have ent : ∀ (ks : List (Nat × Nat)) (j : Nat), j < ks.length → (X13 ks)[j * 2]? = some (.string (nmN (ks.getD j (0, 0)).1)) ∧ (X13 ks)[j * 2 + 1]? = some (.int .i64 ((ks.getD j (0, 0)).2 : Nat)) := by
      intro ks
      induction ks with
      | nil => intro j hj; simp at hj
      | cons k ks ih =>
        intro j hj
        cases j with
        | zero => simp [X13]
        | succ j =>
          have := ih j (by simpa using hj)
          simp only [X13, List.flatMap_cons, List.cons_append, List.nil_append] at this ⊢
          rw [show (j + 1) * 2 = j * 2 + 1 + 1 by omega]
          simpa using this
    obtain ⟨h1, h2⟩ := ent ks j hj
    rw [Nat.zero_add]
    exact ⟨hc _ _ h1, hc _ _ h2⟩
theorem nmN_inj : ∀ a b : Fin 2, nmN a.val = nmN b.val → a = b := by
  have h : ∀ a b : Fin 2, (nmN a.val).data.toList = (nmN b.val).data.toList → a = b := by decide +kernel
  exact fun a b e => h a b (by rw [e])
theorem sl_look {w : World} {g : Gh} {b3 : Bool} (h : Cat w g b3) {s : Nat} (hs : s < 3) (h2 : s = 2 → b3 = true) : (Instr.lookup 33 (.map (some g.sm)) (.string (scN s)) false).run Ybaf.prog w = .ok (.bool true) w := by
  have good : ∀ q ∈ SL b3, strKey q.1 := fun q hq => by
    unfold SL at hq
    rcases List.mem_append.1 hq with hq | hq
    · simp at hq
      rcases hq with rfl | rfl <;> exact ⟨_, rfl, by decide⟩
    · split at hq
      · simp at hq; subst hq; exact ⟨_, rfl, by decide⟩
      · cases hq
  have val : ∀ k v', (k, v') ∈ SL b3 → v' = .bool true := fun k v' hq => by
    unfold SL at hq
    rcases List.mem_append.1 hq with hq | hq
    · simp at hq
      rcases hq with ⟨_, rfl⟩ | ⟨_, rfl⟩ <;> rfl
    · split at hq
      · simp at hq; exact hq.2
      · cases hq
  have mem : (.string (scN s), .bool true) ∈ SL b3 := by
    unfold SL
    have : s = 0 ∨ s = 1 ∨ s = 2 := by omega
    rcases this with rfl | rfl | rfl
    · simp
    · simp
    · simp [h2 rfl]
  have := h.ms.look_some strOK Ybaf.underlying33 good (key := .string (scN s)) (v := .bool true) ⟨_, rfl, by have := sc_size ⟨s, by omega⟩; unfold maxLen; simp only at this; omega⟩ mem (fun v' h => val _ v' h) false
  simpa using this
end Go.Proofs.YbulkzmgFmt.Sc
