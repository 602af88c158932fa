/-
  THE LAW FnRetrying: what its further loops' rounds have to show is so.
-/
import Derived.Test.YtckdphmpafopmaaSxR3RetryingHL
import Derived.Test.YtckdphmpafopmaaSxR3RetryingD
namespace Go.Proofs.Ytckdphmpafopmaa.sxRetrying
open Go.Sx Go.RowKit
set_option linter.unusedVariables false
set_option linter.unusedSimpArgs false
set_option maxRecDepth 100000

theorem r_ixY : ixY.r = 2014 := rfl
theorem r_slY : slY.r = 2015 := rfl
theorem r_rsY : rsY.r = 2016 := rfl
theorem r_sp : sp.r = 2017 := rfl
theorem r_lw : lw.r = 2018 := rfl
/-- Each row of a list stands in it. -/
theorem sl_false {d : Dv} : ∀ i, i < d.T.length → Bsl d i = false := fun i hi => by
  unfold Bsl
  rw [Bool.not_eq_false']
  cases h : anyB (Bix d (cc (row d i) 0) (cc (row d i) 1)) d.T.length with
  | true => rfl
  | false =>
    have := anyB_false h i hi
    simp [Bix] at this
theorem sl_any {d : Dv} : anyB (Bsl d) d.T.length = false := anyB_of sl_false
theorem sl_stop {d : Dv} : stop (Bsl d) d.T.length = d.T.length := by
  have h1 := @stop_le (Bsl d) d.T.length
  have h2 := of_decide_eq_false (sl_any (d := d))
  omega
theorem sent_of {d : Dv} (h : okSent d = true) {i : Nat} (hi : i < d.T.length) : ((cc (row d i) 6).T.length : Int) ≤ 80 := by
  unfold okSent at h
  rw [Bool.not_eq_true'] at h
  have := anyB_false h i hi
  simpa using this
theorem ans_of {d : Dv} (h : okAns d = true) {i : Nat} (hi : i < d.T.length) : okSent (cc (row d i) 0) = true ∧ ((cc (row d i) 0).T.length : Int) ≤ 80 := by
  unfold okAns at h
  rw [Bool.not_eq_true'] at h
  have := anyB_false h i hi
  simpa using this
/-- What the watcher answers. -/
theorem ok_answers {rv : ByteArray} {d : Dv} (hg : ∀ j, j < d.T.length → okStep (row d j) = true) : okAns (answers rv d.T) = true := by
  unfold okAns
  rw [Bool.not_eq_true']
  refine anyB_of fun i hi => ?_
  rw [len_answers] at hi
  rw [row_answers hi, ans_eq]
  have h6 := (good_of (hg i hi)).2.2.1
  generalize row d i = l at *
  generalize stAt rv d.T i = st at *
  have nilS : okSent (.t []) = true := rfl
  have oneS : ∀ {r : List Dv}, ((cc r 6).T.length : Int) ≤ 80 → okSent (.t [r]) = true := fun {r} hr => by
    unfold okSent
    rw [Bool.not_eq_true']
    refine anyB_of fun j hj => ?_
    have : j = 0 := by simp only [T_t, List.length_cons, List.length_nil] at hj; omega
    subst this
    exact decide_eq_false (by show ¬ (80 < ((cc r 6).T.length : Int)); omega)
  have main : okSent (cc (stepW st l).2 0) = true ∧ ((cc (stepW st l).2 0).T.length : Int) ≤ 80 := by
    have e6 : ∀ n, ((cc (errRow n) 6).T.length : Int) ≤ 80 := fun n => by show (([] : List (List Dv)).length : Int) ≤ 80; decide
    have v6 : ∀ n, ((cc (evRow n l) 6).T.length : Int) ≤ 80 := fun n => by show ((cc l 6).T.length : Int) ≤ 80; omega
    unfold stepW
    repeat' split
    all_goals first
      | exact ⟨nilS, by show ((0 : Nat) : Int) ≤ 80; decide⟩
      | exact ⟨oneS (e6 _), by show ((1 : Nat) : Int) ≤ 80; decide⟩
      | exact ⟨oneS (v6 _), by show ((1 : Nat) : Int) ≤ 80; decide⟩
  rw [main.1, Bool.not_true, Bool.false_or]
  exact decide_eq_false (by omega)
theorem good8 {l : List Dv} (h : okStep l = true) : (cc l 8).B = false := by
  simp only [okStep, Bool.and_eq_true, Bool.not_eq_true'] at h
  grind
theorem ty_of {d : Dv} (h : plainTy d = true) {i : Nat} (hi : i < d.T.length) : ∃ t, cc (row d i) 1 = .i t := by
  unfold plainTy at h
  rw [Bool.not_eq_true'] at h
  have := anyB_false h i hi
  simp only [Bool.not_eq_false'] at this
  cases hc : cc (row d i) 1 with
  | i t => exact ⟨t, rfl⟩
  | _ => rw [hc] at this; cases this
section
variable {o : Env} {i : Nat} {u : Nat → Value}
theorem ixY_all (hu : o.uf = UF) (hi : i ≤ stop (Bix (o.v 7060) (o.v 7061) (o.v 7062)) (o.v 7060).T.length) (hn : ((o.v 7060).T.length : Int) ≤ 9223372036854775807) : AllL (ixY.env o u i) ixYL0 := by
  have h1 := @stop_yes (Bix (o.v 7060) (o.v 7061) (o.v 7062)) (o.v 7060).T.length i hi
  have h2 := @stop_no (Bix (o.v 7060) (o.v 7061) (o.v 7062)) (o.v 7060).T.length i hi
  have h3 := @stop_end (Bix (o.v 7060) (o.v 7061) (o.v 7062)) (o.v 7060).T.length i hi
  have h4 : i < (o.v 7060).T.length → Bix (o.v 7060) (o.v 7061) (o.v 7062) i = true → i = stop (Bix (o.v 7060) (o.v 7061) (o.v 7062)) (o.v 7060).T.length := fun hlt hb => by
    rcases Nat.lt_or_ge i (stop (Bix (o.v 7060) (o.v 7061) (o.v 7062)) (o.v 7060).T.length) with h | h
    · rw [stop_before h] at hb; cases hb
    · omega
  simp only [Bix] at h1 h2 h4
  simp only [ixYL0, allL_cons, allL_nil, and_true]
  and_intros
  all_goals intro h
  all_goals simp only [hold_cons_iff, hold_nil_iff, allT_cons, allT_nil, ob_e, dB_lt, dB_le, dB_ieq, dB_seq, dB_not, dB_beq, dB_bl, dI_il, dI_add, dI_size, dI_tlen, d_v, d_uf, d_cel, d_cell, d_il, ar_0, ar_1, ar_2, LoopY.env, r_ixY, hu, UF_60, UF_61, if_true, if_false, Nat.reduceEqDiff, I_i, B_b, S_s, T_t, Int.toNat_natCast, anyB, decide_eq_true_eq, decide_eq_false_iff_not, and_true, Bool.not_eq_true', Bool.and_eq_true, Bool.and_eq_false_iff] at h h1 h2 h3 h4 ⊢
  all_goals grind
theorem slY_all (hu : o.uf = UF) (hi : i ≤ stop (Bsl (o.v 7065)) (o.v 7065).T.length) (hn : ((o.v 7065).T.length : Int) ≤ 9223372036854775807) : AllL (slY.env o u i) slYL0 := by
  have h1 := @stop_yes (Bsl (o.v 7065)) (o.v 7065).T.length i hi
  have h2 := @stop_no (Bsl (o.v 7065)) (o.v 7065).T.length i hi
  have h3 := @stop_end (Bsl (o.v 7065)) (o.v 7065).T.length i hi
  have h4 := @stop_le (Bix (o.v 7065) (cc (row (o.v 7065) i) 0) (cc (row (o.v 7065) i) 1)) (o.v 7065).T.length
  simp only [Bsl] at h1 h2
  simp only [slYL0, allL_cons, allL_nil, and_true]
  and_intros
  all_goals intro h
  all_goals simp only [hold_cons_iff, hold_nil_iff, allT_cons, allT_nil, ob_e, dB_lt, dB_le, dB_ieq, dB_seq, dB_not, dB_beq, dB_bl, dI_il, dI_add, dI_size, dI_tlen, d_v, d_uf, d_cel, d_cell, d_il, ar_0, ar_1, ar_2, LoopY.env, r_slY, hu, UF_60, UF_61, UF_62, UF_63, if_true, if_false, Nat.reduceEqDiff, I_i, B_b, S_s, T_t, Int.toNat_natCast, anyB, decide_eq_true_eq, decide_eq_false_iff_not, and_true, Bool.not_eq_true', Bool.not_eq_false'] at h h1 h2 h3 ⊢
  all_goals grind
theorem rsY_all (hu : o.uf = UF) (hi : i ≤ (o.v 7070).T.length) (hn : ((o.v 7070).T.length : Int) ≤ 9223372036854775807) (hs : okSent (o.v 7070) = true) : AllL (rsY.env o u i) rsYL0 := by
  have h1 := fun h => @sent_of (o.v 7070) hs i h
  have h2 := @sl_any (cc (row (o.v 7070) i) 6)
  simp only [rsYL0, allL_cons, allL_nil, and_true]
  and_intros
  all_goals intro h
  all_goals simp only [hold_cons_iff, hold_nil_iff, allT_cons, allT_nil, ob_e, dB_lt, dB_le, dB_ieq, dB_seq, dB_not, dB_beq, dB_bl, dI_il, dI_add, dI_size, dI_tlen, d_v, d_uf, d_cel, d_cell, d_il, ar_0, ar_1, ar_2, LoopY.env, r_rsY, hu, UF_62, if_true, if_false, Nat.reduceEqDiff, I_i, B_b, S_s, T_t, Int.toNat_natCast, h2, decide_eq_true_eq, decide_eq_false_iff_not, and_true, Bool.not_eq_true', Bool.not_eq_false'] at h ⊢
  all_goals grind
theorem lw_all (hu : o.uf = UF) (hi : i ≤ (o.v 7080).T.length) (hn : ((o.v 7080).T.length : Int) ≤ 80) (hs : okAns (o.v 7080) = true) : AllL (lw.env o u i) lwL0 := by
  have h1 := fun h => @ans_of (o.v 7080) hs i h
  simp only [lwL0, allL_cons, allL_nil, and_true]
  and_intros
  all_goals intro h
  all_goals simp only [hold_cons_iff, hold_nil_iff, allT_cons, allT_nil, ob_e, dB_lt, dB_le, dB_ieq, dB_seq, dB_not, dB_beq, dB_bl, dI_il, dI_add, dI_size, dI_tlen, d_v, d_uf, d_cel, d_cell, d_il, ar_0, ar_1, ar_2, LoopY.env, r_lw, hu, UF_64, if_true, if_false, Nat.reduceEqDiff, I_i, B_b, S_s, T_t, Int.toNat_natCast, decide_eq_true_eq, decide_eq_false_iff_not, and_true, Bool.not_eq_true', Bool.not_eq_false'] at h ⊢
  all_goals grind
set_option maxHeartbeats 4000000 in
theorem sp_all0 (hu : o.uf = UF) (hi : 0 ≤ (o.v 7075).T.length) (hn : ((o.v 7075).T.length : Int) ≤ 80) (hg : ∀ j, j < (o.v 7075).T.length → okStep (row (o.v 7075) j) = true) (hw : plainTy (o.v 7075) = true) : AllL (sp.env o u 0) spL0 := by
  have hx : ¬ 0 < (o.v 7075).T.length → List.take 0 (answers (o.v 7076).S (o.v 7075).T).T = (answers (o.v 7076).S (o.v 7075).T).T := fun h => List.take_of_length_le (by rw [len_answers]; omega)
  have hx0 : ¬ 0 < (o.v 7075).T.length → (answers (o.v 7076).S (o.v 7075).T).T = [] := fun h => List.length_eq_zero_iff.1 (by rw [len_answers]; omega)
  have hl : (answers (o.v 7076).S (o.v 7075).T).T.length = (o.v 7075).T.length := len_answers
  have hr : 0 < (o.v 7075).T.length → row (answers (o.v 7076).S (o.v 7075).T) 0 = (stepW (stAt (o.v 7076).S (o.v 7075).T 0) (row (o.v 7075) 0)).2 := fun h => row_answers h
  have hs : stAt (o.v 7076).S (o.v 7075).T (0 + 1) = (stepW (stAt (o.v 7076).S (o.v 7075).T 0) (row (o.v 7075) 0)).1 := rfl
  have hgd : 0 < (o.v 7075).T.length → _ := fun h => good_of (hg 0 h)
  have h8 : 0 < (o.v 7075).T.length → _ := fun h => good8 (hg 0 h)
  have hty : 0 < (o.v 7075).T.length → _ := fun h => ty_of hw h
  clear hg
  simp only [spL0, allL_cons, allL_nil, and_true]
  and_intros
  all_goals intro h
  all_goals simp only [hold_cons_iff, hold_nil_iff, allT_cons, allT_nil, ob_e, ob_t, dB_lt, dB_le, dB_ieq, dB_seq, dB_not, dB_beq, dB_bl, dS_sl, dI_il, dI_add, dI_mul, dI_quo, dI_mn, dI_mx, dI_size, dI_tlen, d_v, d_uf, d_cel, d_cell, d_il, d_bl, d_sl, d_add, d_take, dT_take, LoopY.env, r_sp, hu, UF_20, UF_21, UF_22, UF_30, ar_0, ar_1, ar_2, if_true, if_false, Nat.reduceEqDiff, I_i, B_b, S_s, T_t, T_i, T_cel, Int.toNat_natCast, Int.toNat_zero, toNat_succ, decide_eq_true_eq, decide_eq_false_iff_not, and_true, Bool.not_eq_true', cast_lt, hs] at h ⊢
  all_goals (by_cases hlt : 0 < (o.v 7075).T.length)
  all_goals try rw [hr hlt]
  all_goals try replace hgd := hgd hlt
  all_goals try replace h8 := h8 hlt
  all_goals try replace hty := hty hlt
  all_goals clear hr hs
  all_goals generalize row (o.v 7075) 0 = l at *
  all_goals generalize stAt (o.v 7076).S (o.v 7075).T 0 = st at *
  all_goals obtain ⟨rv, op, dn⟩ := st
  all_goals try obtain ⟨ty, hty⟩ := hty
  all_goals try simp only [hty, I_i] at h hgd ⊢
  all_goals first
    | (simp_all [stepW, errRow, evRow, idle, nos, cc_0, cc_1, cc_2, cc_3, cc_4, hd_1, hd_0, bytes_eq_nil, quo_mul, T_t, B_b, S_s, I_i, nosL]; done)
    | (cases op <;> cases dn <;> by_cases k2 : (cc l 0).I = 2 <;> first | (simp_all [stepW, errRow, evRow, idle, nos, cc_0, cc_1, cc_2, cc_3, cc_4, hd_1, hd_0, bytes_eq_nil, quo_mul, T_t, B_b, S_s, I_i, nosL]; done) | (simp_all [stepW, errRow, evRow, idle, nos, cc_0, cc_1, cc_2, cc_3, cc_4, hd_1, hd_0, bytes_eq_nil, quo_mul, T_t, B_b, S_s, I_i, nosL]; omega) | (simp_all [stepW, errRow, evRow, idle, nos, cc_0, cc_1, cc_2, cc_3, cc_4, hd_1, hd_0, bytes_eq_nil, quo_mul, T_t, B_b, S_s, I_i, nosL]; grind))
    | skip
set_option maxHeartbeats 4000000 in
theorem sp_all1 (hu : o.uf = UF) (hi : i ≤ (o.v 7075).T.length) (hn : ((o.v 7075).T.length : Int) ≤ 80) (hg : ∀ j, j < (o.v 7075).T.length → okStep (row (o.v 7075) j) = true) (hw : plainTy (o.v 7075) = true) : AllL (sp.env o u i) spL1 := by
  have hx : ¬ i < (o.v 7075).T.length → List.take i (answers (o.v 7076).S (o.v 7075).T).T = (answers (o.v 7076).S (o.v 7075).T).T := fun h => List.take_of_length_le (by rw [len_answers]; omega)
  have hl : (answers (o.v 7076).S (o.v 7075).T).T.length = (o.v 7075).T.length := len_answers
  have hr : i < (o.v 7075).T.length → row (answers (o.v 7076).S (o.v 7075).T) i = (stepW (stAt (o.v 7076).S (o.v 7075).T i) (row (o.v 7075) i)).2 := fun h => row_answers h
  have hs : stAt (o.v 7076).S (o.v 7075).T (i + 1) = (stepW (stAt (o.v 7076).S (o.v 7075).T i) (row (o.v 7075) i)).1 := rfl
  have hgd : i < (o.v 7075).T.length → _ := fun h => good_of (hg i h)
  have h8 : i < (o.v 7075).T.length → _ := fun h => good8 (hg i h)
  have hty : i < (o.v 7075).T.length → _ := fun h => ty_of hw h
  clear hg
  simp only [spL1, allL_cons, allL_nil, and_true]
  and_intros
  all_goals intro h
  all_goals simp only [hold_cons_iff, hold_nil_iff, allT_cons, allT_nil, ob_e, ob_t, dB_lt, dB_le, dB_ieq, dB_seq, dB_not, dB_beq, dB_bl, dS_sl, dI_il, dI_add, dI_mul, dI_quo, dI_mn, dI_mx, dI_size, dI_tlen, d_v, d_uf, d_cel, d_cell, d_il, d_bl, d_sl, d_add, d_take, dT_take, LoopY.env, r_sp, hu, UF_20, UF_21, UF_22, UF_30, ar_0, ar_1, ar_2, if_true, if_false, Nat.reduceEqDiff, I_i, B_b, S_s, T_t, T_i, T_cel, Int.toNat_natCast, toNat_succ, decide_eq_true_eq, decide_eq_false_iff_not, and_true, Bool.not_eq_true', cast_lt, hs] at h ⊢
  all_goals (by_cases hlt : i < (o.v 7075).T.length)
  all_goals try rw [hr hlt]
  all_goals try replace hgd := hgd hlt
  all_goals try replace h8 := h8 hlt
  all_goals try replace hty := hty hlt
  all_goals clear hr hs
  all_goals generalize row (o.v 7075) i = l at *
  all_goals generalize stAt (o.v 7076).S (o.v 7075).T i = st at *
  all_goals obtain ⟨rv, op, dn⟩ := st
  all_goals try obtain ⟨ty, hty⟩ := hty
  all_goals try simp only [hty, I_i] at h hgd ⊢
  all_goals first
    | (simp_all [stepW, errRow, evRow, idle, nos, cc_0, cc_1, cc_2, cc_3, cc_4, hd_1, hd_0, bytes_eq_nil, quo_mul, T_t, B_b, S_s, I_i, nosL]; done)
    | (cases op <;> cases dn <;> by_cases k2 : (cc l 0).I = 2 <;> first | (simp_all [stepW, errRow, evRow, idle, nos, cc_0, cc_1, cc_2, cc_3, cc_4, hd_1, hd_0, bytes_eq_nil, quo_mul, T_t, B_b, S_s, I_i, nosL]; done) | (simp_all [stepW, errRow, evRow, idle, nos, cc_0, cc_1, cc_2, cc_3, cc_4, hd_1, hd_0, bytes_eq_nil, quo_mul, T_t, B_b, S_s, I_i, nosL]; omega) | (simp_all [stepW, errRow, evRow, idle, nos, cc_0, cc_1, cc_2, cc_3, cc_4, hd_1, hd_0, bytes_eq_nil, quo_mul, T_t, B_b, S_s, I_i, nosL]; grind))
    | skip
end
end Go.Proofs.Ytckdphmpafopmaa.sxRetrying
