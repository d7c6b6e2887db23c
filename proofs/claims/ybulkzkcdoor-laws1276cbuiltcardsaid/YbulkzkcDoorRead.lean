import Derived.Test.YbulkzkcDoorAtoi
namespace Go.Proofs.YbulkzkcDoor.Rd
open Go.RowKit

/-- The cells of 'got': the values read, then what was there. -/
def gotF (vs : List Nat) (f : Nat → Value) : Nat → Value := fun j => if j < vs.length then .int .i64 ((vs.getD j 0 : Nat) : Int) else f j

theorem gotF_snoc (vs : List Nat) (f : Nat → Value) (v : Nat) : (fun j => if j = vs.length then Value.int .i64 (v : Int) else gotF vs f j) = gotF (vs ++ [v]) f := by
  funext j
  unfold gotF
  by_cases h : j = vs.length
  · subst h; simp
  · by_cases h2 : j < vs.length
    · rw [if_neg h, if_pos h2, if_pos (by simp; omega)]
      simp [List.getD, List.getElem?_append_left h2]
    · rw [if_neg h, if_neg h2, if_neg (by simp; omega)]

theorem nums_cons (t : ByteArray) (h : 0 < t.size) : nums t = (t[0]).toNat :: nums (t.extract 1 t.size) := by
  have h0 := nums_get t 0 h
  rw [nums_extract, List.take_of_length_le (by rw [nums_len]; omega)]
  cases e : nums t with
  | nil => rw [e] at h0; simp at h0
  | cons a r => rw [e] at h0; simp at h0; simp [h0]
theorem nums_nil (t : ByteArray) (h : t.size = 0) : nums t = [] := by
  apply List.eq_nil_of_length_eq_zero; rw [nums_len]; exact h

theorem rd_empty (k : Nat) : rd (k + 1) [] = ([], false, []) := rfl
theorem rd_nopunct (k c : Nat) (t : List Nat) (h : punct c = false) : rd (k + 1) (c :: t) = (c :: t, false, []) := by simp [rd, h]
theorem rd_nolead (k c : Nat) (t : List Nat) (h : punct c = true) (hl : lead t = 0) : rd (k + 1) (c :: t) = (t, false, []) := by simp [rd, h, hl]
theorem rd_step (k c : Nat) (t : List Nat) (h : punct c = true) (hl : lead t ≠ 0) : rd (k + 1) (c :: t) = ((rd k (t.drop (lead t))).1, (rd k (t.drop (lead t))).2.1, val (t.take (lead t)) :: (rd k (t.drop (lead t))).2.2) := by simp [rd, h, hl]

theorem isEmpty_no (t : ByteArray) (h : 0 < t.size) : t.toList.isEmpty = false := by
  rw [ByteArray.toList_eq]
  have h1 : 0 < t.data.toList.length := by rw [Array.length_toList]; exact h
  cases hl : t.data.toList with
  | nil => rw [hl] at h1; simp at h1
  | cons _ _ => rfl
theorem isEmpty_yes (t : ByteArray) (h : t.size = 0) : t.toList.isEmpty = true := by
  rw [ByteArray.toList_eq]
  have h1 : t.data.toList.length = 0 := by rw [Array.length_toList]; exact h
  rw [List.eq_nil_of_length_eq_zero h1]; rfl

structure RdRel (k : Nat) (S : List Nat) (i : Nat) (t : List Nat) (vs : List Nat) : Prop where
  len : vs.length = i
  eq : rd k S = ((rd (k - i) t).1, (rd (k - i) t).2.1, vs ++ (rd (k - i) t).2.2)

theorem RdRel.stop {k i : Nat} {S t vs : List Nat} (h : RdRel k S i t vs) {r : List Nat} {o : Bool} (e : rd (k - i) t = (r, o, [])) : rd k S = (r, o, vs) := by
  rw [h.eq, e]; simp
theorem RdRel.start (k : Nat) (S : List Nat) : RdRel k S 0 S [] := ⟨rfl, by simp⟩
theorem RdRel.step {k i : Nat} {S t vs : List Nat} (h : RdRel k S i t vs) (hi : i < k) {c : Nat} {u : List Nat} (e : t = c :: u) (hp : punct c = true) (hl : lead u ≠ 0) : RdRel k S (i + 1) (u.drop (lead u)) (vs ++ [val (u.take (lead u))]) := by
  obtain ⟨h1, h2⟩ := h
  refine ⟨by simp [h1], ?_⟩
  obtain ⟨m, rfl⟩ : ∃ m, k = i + 1 + m := ⟨k - (i + 1), by omega⟩
  rw [h2, e]
  have e1 : i + 1 + m - i = m + 1 := by omega
  have e2 : i + 1 + m - (i + 1) = m := by omega
  rw [e1, e2, rd_step m c u hp hl]
  simp

set_option maxHeartbeats 800000 in
theorem read_any (S : ByteArray) (k gp gg : Nat) (f : Nat → Value) (w : World) (hS : S.size ≤ 100000) (hk : k ≤ 100000) (hg : w.rowIs gg 3 k f) (hp : w.rowIs gp 24 k (fun i => .pointer (some ⟨gg, i, none⟩))) (hne : gp ≠ gg) (R : List Nat) (ok : Bool) (vals : List Nat) (hR : Hid (rd k (nums S) = (R, ok, vals))) :
    Calls Ybad.prog 5 #[.string S, .slice (some ⟨gp, 0, none⟩) k k] w fun e w' => ∃ r : ByteArray, e = .returned (.tuple #[.string r, .bool ok]) ∧ nums r = R ∧ r.size ≤ S.size ∧ w'.rowIs gg 3 k (gotF vals f) ∧ Kept (fun b => b = gg) w w' := by
  have Hg := toHid hg
  have Hp := toHid hp
  clear hg hp
  go_enter Ybad.func5, Ybad.ntmps5
  go_wp2_with fail
  go_loopw [0, 4, 5, 11] (fun s r o i wr => ∃ (t : ByteArray) (n : Nat) (vs : List Nat), s = .string t ∧ i = .int .i64 n ∧ n ≤ k ∧ t.size ≤ S.size ∧ Hid (RdRel k (nums S) n (nums t) vs) ∧ Hid (wr.rowIs gg 3 k (gotF vs f)) ∧ Hid (Kept (fun b => b = gg) w wr)) (fun _ _ _ i _ => k - (intOf i).toNat)
  case atStart => exact ⟨S, 0, [], rfl, rfl, by omega, Nat.le_refl _, RdRel.start _ _, Hg.out.congr (fun j _ => by simp [gotF]), Kept.refl _ _⟩
  case round =>
    obtain ⟨t, n, vs, rfl, rfl, hn, ht, Hr, HG, HK⟩ := hrel
    by_cases hnk : n < k
    · have hpc := (HK.out.row Hp.out hne).cell hnk
      obtain ⟨m, hm⟩ : ∃ m, k - n = m + 1 := ⟨k - n - 1, by omega⟩
      by_cases hz : t.size = 0
      · have hE := isEmpty_yes t hz
        have e := Hr.out.stop (r := nums t) (o := false) (by rw [hm, nums_nil t hz]; rfl)
        obtain ⟨rfl, rfl, rfl⟩ : R = nums t ∧ ok = false ∧ vals = vs := by simpa using hR.out.symm.trans e
        clear e hR Hr
        go_wp2_with fail
        go_ret2
        exact ⟨t, rfl, rfl, ht, HG.out, HK.out⟩
      · have hE := isEmpty_no t (by omega)
        have hpos : 0 < t.size := by omega
        have hcons := nums_cons t hpos
        cases hP : punct (t[0]).toNat with
        | false =>
          have HC : Hid (∀ w, Calls Ybad.prog 8 #[.int .u8 ((t[0]).toNat : Nat)] w fun e w' => e = .returned (.bool false) ∧ w = w') := fun w => by
            have := punct_any (t[0]).toNat w (by have := (t[0]).toNat_lt; omega)
            rw [hP] at this; exact this.mono (fun e w' h => ⟨h.1, h.2.symm⟩)
          have e := Hr.out.stop (r := nums t) (o := false) (by rw [hm, hcons]; exact rd_nopunct _ _ _ hP)
          obtain ⟨rfl, rfl, rfl⟩ : R = nums t ∧ ok = false ∧ vals = vs := by simpa using hR.out.symm.trans e
          clear hP hcons e hR Hr
          go_wp2_with (go_at_call 8; refine (HC.out _).mono ?_; rintro e w' ⟨rfl, rfl⟩)
          go_ret2
          exact ⟨t, rfl, rfl, ht, HG.out, HK.out⟩
        | true =>
          have HC : Hid (∀ w, Calls Ybad.prog 8 #[.int .u8 ((t[0]).toNat : Nat)] w fun e w' => e = .returned (.bool true) ∧ w = w') := fun w => by
            have := punct_any (t[0]).toNat w (by have := (t[0]).toNat_lt; omega)
            rw [hP] at this; exact this.mono (fun e w' h => ⟨h.1, h.2.symm⟩)
          generalize hu : t.extract 1 t.size = u at hcons
          have hus : u.size ≤ S.size := by rw [← hu]; simp; omega
          obtain ⟨q, hq⟩ : ∃ q, lead (nums u) = q := ⟨_, rfl⟩
          have HQ := toHid hq
          have hq2 : q ≤ u.size ∧ q ≤ 2 := by have := lead_le (nums u); rw [nums_len, hq] at this; exact this
          obtain ⟨hq3, hq4⟩ := hq2
          clear hq
          have HL := toHid (fun w => leading_any u w (by omega) q HQ)
          have HP := toHid hP
          have Hcons := toHid hcons
          clear hP hcons
          have hd : ∀ j (h : j < (u.extract 0 q).size), isD ((u.extract 0 q)[j]).toNat = true := fun j h => by
            have e := nums_get (u.extract 0 q) j h
            rw [nums_extract, List.drop_zero] at e
            have := lead_digits (nums u) ((u.extract 0 q)[j]).toNat
            rw [HQ.out] at this
            exact this (List.mem_of_getElem? e)
          by_cases hq0 : q = 0
          · subst hq0
            have hE2 := isEmpty_yes (u.extract 0 0) (by simp)
            have e := Hr.out.stop (r := nums u) (o := false) (by rw [hm, Hcons.out]; exact rd_nolead _ _ _ HP.out HQ.out)
            obtain ⟨rfl, rfl, rfl⟩ : R = nums u ∧ ok = false ∧ vals = vs := by simpa using hR.out.symm.trans e
            clear e hd hR Hr
            go_wp2_with first | (go_at_call 8; refine (HC.out _).mono ?_; rintro e w' ⟨rfl, rfl⟩) | (go_at_call 9; refine (HL.out _).mono ?_; rintro e w' ⟨rfl, nd, rfl⟩)
            go_ret2
            exact ⟨_, rfl, rfl, hus, HG.out, HK.out.drewN _⟩
          · have hE2 := isEmpty_no (u.extract 0 q) (by simp; omega)
            have HA := toHid (fun w => atoi_any (u.extract 0 q) w (by simp; omega) (by simp; omega) hd _ rfl)
            clear hd
            generalize hds : u.extract 0 q = ds at *
            generalize hdr : u.extract q u.size = dr at *
            have hst := Hr.out.step hnk Hcons.out HP.out (by rw [HQ.out]; exact hq0)
            have e1 : (nums u).drop q = nums dr := by rw [← hdr, nums_extract, List.take_of_length_le (by rw [nums_len]; omega)]
            have e2 : (nums u).take q = nums ds := by rw [← hds, nums_extract, List.drop_zero]
            rw [HQ.out, e1, e2] at hst
            have Hst := toHid hst
            clear hst e1 e2
            have hdrs : dr.size ≤ S.size := by rw [← hdr]; simp; omega
            have Hhide := toHid (And.intro hds hdr)
            clear hds hdr
            generalize hvv : val (nums ds) = vv at *
            go_wp2_with first | (go_at_call 8; refine (HC.out _).mono ?_; rintro e w' ⟨rfl, rfl⟩) | (go_at_call 9; refine (HL.out _).mono ?_; rintro e w' ⟨rfl, nd, rfl⟩) | (go_at_call 10; refine (HA.out _).mono ?_; rintro e wa ⟨rfl, hKa⟩; have hga := toHid (hKa.row (rowIs_drewN HG.out nd) (fun e => e)); have hca := hga.out.cell hnk; have hfa := hga.out.frozen n)
            go_round
            case rel =>
              refine ⟨dr, n + 1, vs ++ [vv], rfl, by go_num, by omega, hdrs, Hst, ?_, ?_⟩
              · have e := hga.out.set n (.int .i64 (vv : Int))
                have e2 := gotF_snoc vs f vv
                rw [Hr.out.len] at e2
                rw [e2] at e
                exact e
              · exact ((HK.out.drewN nd).trans hKa.any).setCell rfl _
            case measure => simp [intOf]; omega
    · obtain rfl : n = k := by omega
      have e := Hr.out.stop (r := nums t) (o := true) (by rw [Nat.sub_self]; rfl)
      obtain ⟨rfl, rfl, rfl⟩ : R = nums t ∧ ok = true ∧ vals = vs := by simpa using hR.out.symm.trans e
      clear e hR Hr
      go_wp2_with fail
      go_ret2
      exact ⟨t, rfl, rfl, ht, HG.out, HK.out⟩
end Go.Proofs.YbulkzkcDoor.Rd
