import Derived.Test.YbulkzkcDoorRead
namespace Go.Proofs.YbulkzkcDoor.Rd
open Go.RowKit

theorem Ybad.info3 : (Ybad.prog.info? 3).map (fun i => (i.zero, i.size, i.bytes)) = some (some (.int .i64 0), 1, 8) := by kernel_rfl
theorem Ybad.info24 : (Ybad.prog.info? 24).map (fun i => (i.zero, i.size, i.bytes)) = some (some (.pointer none), 1, 8) := by kernel_rfl

theorem results_tmp4 {fn : Func} {t u v x : Tmp} (h : fn.results = #[.tmp t, .tmp u, .tmp v, .tmp x]) (tmps : Array Value) (P : Program) (w : World) :
    (results fn tmps).run P w = .ok (.tuple #[tmps.getD t undef, tmps.getD u undef, tmps.getD v undef, tmps.getD x undef]) w := by
  simp [results, h]

theorem drop_get (s : ByteArray) (p d : Nat) (h : p + d < s.size) : ((nums s).drop p)[d]? = some (s[p + d]).toNat := by
  rw [List.getElem?_drop]; exact nums_get s (p + d) h

theorem drop_take_succ (s : ByteArray) (p d : Nat) (h : p + d < s.size) : ((nums s).drop p).take (d + 1) = ((nums s).drop p).take d ++ [(s[p + d]).toNat] := by
  have hl : d < ((nums s).drop p).length := by rw [List.length_drop, nums_len]; omega
  rw [List.take_succ_eq_append_getElem hl]
  have := drop_get s p d h
  rw [List.getElem?_eq_getElem hl] at this
  rw [Option.some.inj this]

theorem drop_cons (s : ByteArray) (p : Nat) (h : p < s.size) : (nums s).drop p = (s[p]).toNat :: (nums s).drop (p + 1) := by
  have hl : p < (nums s).length := by rw [nums_len]; exact h
  rw [List.drop_eq_getElem_cons hl]
  have := nums_get s p h
  rw [List.getElem?_eq_getElem hl] at this
  rw [Option.some.inj this]

theorem nums_tail (s : ByteArray) (p : Nat) : nums (s.extract p s.size) = (nums s).drop p := by
  rw [nums_extract, List.take_of_length_le (by rw [nums_len]; omega)]

set_option maxRecDepth 20000 in
set_option maxHeartbeats 800000 in
theorem model_any (S : ByteArray) (k : Nat) (w : World) (hS : S.size ≤ 100000) (hk : k ≤ 100000) (R : List Nat) (ok : Bool) (vals : List Nat) (hR : Hid (rd k (nums S) = (R, ok, vals))) :
    Calls Ybad.prog 6 #[.string S, .int .i64 k] w fun e w' => ∃ r : ByteArray, e = .returned (.tuple #[.string r, .bool ok, .slice (some ⟨w.heap.size, 0, none⟩) k k, .int .i64 (vals.length : Nat)]) ∧ nums r = R ∧ w'.rowIs w.heap.size 3 k (gotF vals (fun _ => .int .i64 0)) ∧ Kept (fun b => b = w.heap.size) w w' := by
  have hmk := run_make_row' (P := Ybad.prog) 22 3 (.int .i64 0) 8 Ybad.underlying22 Ybad.info3 rfl .i64 .i64 k (by omega) (by omega) w
  have HW := toHid (World.rowIs_made w (.int .i64 0) k 3)
  have HK0 := toHid ((Kept.refl (fun b => b = w.heap.size) w).alloc (.cells (madeCells #[.int .i64 0] k) 3))
  generalize hW0 : w.alloc (.cells (madeCells #[.int .i64 0] k) 3) = W at *
  have Hh := toHid hW0
  clear hW0
  generalize hB : w.heap.size = B at *
  have HB := toHid hB
  clear hB
  go_enter Ybad.func6, Ybad.ntmps6
  go_wp2_with fail
  go_loopw [4, 5, 6, 7, 9, 10] (fun a4 a5 a6 a7 ps i wr => ∃ (p n : Nat) (vs : List Nat), ps = .int .i64 p ∧ i = .int .i64 n ∧ n ≤ k ∧ p ≤ S.size ∧ Hid (RdRel k (nums S) n ((nums S).drop p) vs) ∧ Hid (wr.rowIs B 3 k (gotF vs (fun _ => .int .i64 0))) ∧ Hid (Kept (fun b => b = B) w wr)) (fun _ _ _ _ _ i _ => k - (intOf i).toNat)
  case atStart => exact ⟨0, 0, [], rfl, rfl, by omega, by omega, RdRel.start k (nums S), HW.out.congr (fun j _ => by simp [gotF]), HK0.out⟩
  case round =>
    obtain ⟨p, n, vs, rfl, rfl, hn, hp, Hr, HG, HK⟩ := hrel
    by_cases hnk : n < k
    · obtain ⟨m, hm⟩ : ∃ m, k - n = m + 1 := ⟨k - n - 1, by omega⟩
      by_cases hz : S.size ≤ p
      · have e0 : (nums S).drop p = [] := List.drop_of_length_le (by rw [nums_len]; omega)
        have e := Hr.out.stop (r := nums (S.extract p S.size)) (o := false) (by rw [hm, nums_tail, e0]; rfl)
        obtain ⟨rfl, rfl, rfl⟩ : R = nums (S.extract p S.size) ∧ ok = false ∧ vals = vs := by simpa using hR.out.symm.trans e
        have hlen := toHid Hr.out.len
        clear e hR Hr
        go_wp2_with fail
        refine bodyPost_ret (results_tmp4 rfl _ _ _) rfl ?_
        rw [hlen.out]
        exact ⟨_, rfl, rfl, HG.out, HK.out⟩
      · have hp2 : p < S.size := by omega
        have hcons := drop_cons S p hp2
        cases hP : punct (S[p]).toNat with
        | false =>
          have HC : Hid (∀ w, Calls Ybad.prog 11 #[.int .u8 ((S[p]).toNat : Nat)] w fun e w' => e = .returned (.bool false) ∧ w = w') := fun w => by
            have := cpunct_any (S[p]).toNat w (by have := (S[p]).toNat_lt; omega)
            rw [hP] at this; exact this.mono (fun e w' h => ⟨h.1, h.2.symm⟩)
          have e := Hr.out.stop (r := nums (S.extract p S.size)) (o := false) (by rw [hm, nums_tail, hcons]; exact rd_nopunct _ _ _ hP)
          obtain ⟨rfl, rfl, rfl⟩ : R = nums (S.extract p S.size) ∧ ok = false ∧ vals = vs := by simpa using hR.out.symm.trans e
          have hlen := toHid Hr.out.len
          clear e hR Hr hP hcons
          go_wp2_with (go_at_call 11; refine (HC.out _).mono ?_; rintro e w' ⟨rfl, rfl⟩)
          refine bodyPost_ret (results_tmp4 rfl _ _ _) rfl ?_
          rw [hlen.out]
          exact ⟨_, rfl, rfl, HG.out, HK.out⟩
        | true =>
          have HC : Hid (∀ w, Calls Ybad.prog 11 #[.int .u8 ((S[p]).toNat : Nat)] w fun e w' => e = .returned (.bool true) ∧ w = w') := fun w => by
            have := cpunct_any (S[p]).toNat w (by have := (S[p]).toNat_lt; omega)
            rw [hP] at this; exact this.mono (fun e w' h => ⟨h.1, h.2.symm⟩)
          have HP := toHid hP
          have Hcons := toHid hcons
          clear hP hcons
          go_wp2_with (go_at_call 11; refine (HC.out _).mono ?_; rintro e w' ⟨rfl, rfl⟩)
          go_loop [9, 11, 12] (fun ps nd v => ∃ d x : Nat, ps = .int .i64 ((p + 1 + d : Nat) : Int) ∧ nd = .int .i64 d ∧ v = .int .i64 x ∧ d ≤ 2 ∧ p + 1 + d ≤ S.size ∧ x < 10 ^ d ∧ Hid (∀ j, j < d → ∃ c, ((nums S).drop (p + 1))[j]? = some c ∧ isD c = true) ∧ Hid (val (((nums S).drop (p + 1)).take d) = x)) (fun _ nd _ => 3 - (intOf nd).toNat)
          case atStart => exact ⟨0, 0, by go_num, rfl, rfl, by omega, by omega, by omega, fun j h => absurd h (by omega), rfl⟩
          case round =>
            obtain ⟨d, x, rfl, rfl, rfl, hd2, hpd, hx, Hd, Hx⟩ := hrel
            have hx2 : x < 100 := Nat.lt_of_lt_of_le hx (by
              have : d = 0 ∨ d = 1 ∨ d = 2 := by omega
              rcases this with rfl | rfl | rfl <;> omega)
            by_cases hin : p + 1 + d < S.size ∧ d < 2 ∧ ∃ c, ((nums S).drop (p + 1))[d]? = some c ∧ isD c = true
            · obtain ⟨hin1, hin2, c, hc1, hc2⟩ := hin
              have hget := drop_get S (p + 1) d hin1
              obtain rfl := Option.some.inj (hget.symm.trans hc1)
              have hts := drop_take_succ S (p + 1) d hin1
              have hc2' := hc2
              simp only [isD, Bool.and_eq_true, decide_eq_true_eq] at hc2'
              obtain ⟨a1, b1⟩ := hc2'
              have Hc1 := toHid hc1
              have Hc2 := toHid hc2
              have Hts := toHid hts
              clear hc1 hc2 hts hget
              have hx3 : x < 10 := by
                have : d = 0 ∨ d = 1 := by omega
                rcases this with rfl | rfl <;> omega
              have hpow : 10 ^ (d + 1) = 10 ^ d * 10 := Nat.pow_succ 10 d
              generalize hpp : p + 1 + d = z at *
              generalize hcc : (S[z]).toNat = c at *
              have Hpp := toHid hpp
              clear hpp
              go_wp2_with fail
              go_round
              case rel =>
                refine ⟨d + 1, x * 10 + (c - 48), by have := Hpp.out; go_num, by go_num, by go_num, by omega, by have := Hpp.out; omega, by omega, fun j hj => ?_, ?_⟩
                · by_cases e : j = d
                  · subst e; exact ⟨_, Hc1.out, Hc2.out⟩
                  · exact Hd.out j (by omega)
                · show val _ = _
                  rw [Hts.out, val_snoc, Hx.out]
              case measure => simp [intOf]; omega
            · have hl : lead ((nums S).drop (p + 1)) = d := by
                refine lead_eq (by rw [List.length_drop, nums_len]; omega) hd2 Hd.out ?_
                by_cases h1 : p + 1 + d < S.size
                · by_cases h2 : d < 2
                  · refine .inr (.inr ⟨_, drop_get S (p + 1) d h1, ?_⟩)
                    cases hD : isD (S[p + 1 + d]).toNat with
                    | false => rfl
                    | true => exact absurd ⟨h1, h2, _, drop_get S (p + 1) d h1, hD⟩ hin
                  · exact .inr (.inl (by omega))
                · exact .inl (by rw [List.length_drop, nums_len]; omega)
              have hcs : ¬ d < 2 ∨ (d < 2 ∧ ¬ p + 1 + d < S.size) ∨ (∃ h : p + 1 + d < S.size, d < 2 ∧ (S[p + 1 + d]).toNat < 48) ∨ (∃ h : p + 1 + d < S.size, d < 2 ∧ 48 ≤ (S[p + 1 + d]).toNat ∧ 57 < (S[p + 1 + d]).toNat) := by
                by_cases h1 : p + 1 + d < S.size
                · by_cases h2 : d < 2
                  · have hD : isD (S[p + 1 + d]).toNat = false := by
                      cases hD : isD (S[p + 1 + d]).toNat with
                      | false => rfl
                      | true => exact absurd ⟨h1, h2, _, drop_get S (p + 1) d h1, hD⟩ hin
                    simp only [isD, Bool.and_eq_false_iff, decide_eq_false_iff_not] at hD
                    by_cases h3 : 48 ≤ (S[p + 1 + d]).toNat
                    · exact .inr (.inr (.inr ⟨h1, h2, h3, by omega⟩))
                    · exact .inr (.inr (.inl ⟨h1, h2, by omega⟩))
                  · exact .inl h2
                · by_cases h2 : d < 2
                  · exact .inr (.inl ⟨h2, h1⟩)
                  · exact .inl h2
              have Hl := toHid hl
              clear hl hin
              by_cases hd0 : d = 0
              · subst hd0
                have e := Hr.out.stop (r := nums (S.extract (p + 1) S.size)) (o := false) (by rw [hm, nums_tail, Hcons.out]; exact rd_nolead _ _ _ HP.out Hl.out)
                obtain ⟨rfl, rfl, rfl⟩ : R = nums (S.extract (p + 1) S.size) ∧ ok = false ∧ vals = vs := by simpa using hR.out.symm.trans e
                have hlen := toHid Hr.out.len
                clear e hR Hr
                simp only [Nat.add_zero] at hcs hpd
                rcases hcs with h | ⟨h, h'⟩ | ⟨h, h', h''⟩ | ⟨h, h', h'', h'''⟩
                · omega
                all_goals (
                  go_wp2_with fail
                  refine bodyPost_ret (results_tmp4 rfl _ _ _) rfl ?_
                  rw [hlen.out]
                  exact ⟨_, rfl, rfl, HG.out, HK.out⟩)
              · have hst := Hr.out.step hnk Hcons.out HP.out (by rw [Hl.out]; exact hd0)
                rw [Hl.out, Hx.out, List.drop_drop] at hst
                have Hst := toHid hst
                clear hst
                have hca := HG.out.cell hnk
                have hfa := HG.out.frozen n
                have HGn := HG.out.set n (.int .i64 (x : Int))
                have e2 := gotF_snoc vs (fun _ => .int .i64 0) x
                rw [Hr.out.len] at e2
                rw [e2] at HGn
                have HGn := toHid HGn
                clear e2
                rcases hcs with h | ⟨h, h'⟩ | ⟨h, h', h''⟩ | ⟨h, h', h'', h'''⟩
                all_goals (
                  go_wp2_with fail
                  go_round
                  case rel => exact ⟨p + 1 + d, n + 1, _, by go_num, by go_num, by omega, hpd, Hst, HGn, HK.out.setCell rfl _⟩
                  case measure => simp [intOf]; omega)
    · obtain rfl : n = k := by omega
      have e := Hr.out.stop (r := nums (S.extract p S.size)) (o := true) (by rw [Nat.sub_self, nums_tail]; rfl)
      obtain ⟨rfl, rfl, rfl⟩ : R = nums (S.extract p S.size) ∧ ok = true ∧ vals = vs := by simpa using hR.out.symm.trans e
      have hlen := toHid Hr.out.len
      clear e hR Hr
      go_wp2_with fail
      refine bodyPost_ret (results_tmp4 rfl _ _ _) rfl ?_
      rw [hlen.out]
      exact ⟨_, rfl, rfl, HG.out, HK.out⟩
end Go.Proofs.YbulkzkcDoor.Rd
