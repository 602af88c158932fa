/-
  THE LAWS FnRetrying*: what their loops' rounds have to show is so.
-/
import Derived.Test.YtckdphmpafopmaaSxR3RetryingL
import Derived.Test.YtckdphmpafopmaaRows
namespace Go.Proofs.Ytckdphmpafopmaa.sxRetrying
open Go.Sx Go.RowKit
set_option linter.unusedVariables false
set_option linter.unusedSimpArgs false
set_option maxRecDepth 100000

theorem r_fits6 : fits6.r = 2000 := rfl
theorem r_fits31 : fits31.r = 2001 := rfl
theorem r_dup : dup.r = 2002 := rfl
theorem r_pairs : pairs.r = 2005 := rfl
theorem r_steps : steps.r = 2006 := rfl
theorem most_iff {z : Int} : most z = decide (2147483647 < z) := rfl

section
variable {o : Env} {i : Nat} {u : Nat → Value}
theorem fits6_all (hu : o.uf = UF) (hi : i ≤ stop (B6 (o.v 7000)) (o.v 7000).T.length) (hn : ((o.v 7000).T.length : Int) ≤ 9223372036854775807) : AllL (fits6.env o u i) fits6L0 := by
  have h1 := @stop_yes (B6 (o.v 7000)) (o.v 7000).T.length i hi
  have h2 := @stop_no (B6 (o.v 7000)) (o.v 7000).T.length i hi
  have h3 := @stop_end (B6 (o.v 7000)) (o.v 7000).T.length i hi
  have hB : B6 (o.v 7000) i = (decide (2147483647 < ((cc (row (o.v 7000) i) 0).S.size : Int)) || decide (2147483647 < ((cc (row (o.v 7000) i) 1).S.size : Int))) := rfl
  rw [hB] at h1 h2
  simp only [fits6L0, allL_cons, allL_nil, and_true]
  and_intros
  all_goals intro h
  all_goals simp only [hold_cons_iff, hold_nil_iff, allT_cons, allT_nil, ob_e, dB_lt, dB_le, dB_ieq, dB_not, dI_il, dI_add, dI_size, dI_tlen, d_v, d_uf, d_cel, d_cell, d_il, ar_0, ar_1, LoopY.env, r_fits6, hu, UF_1, UF_2, if_true, if_false, Nat.reduceEqDiff, I_i, B_b, Int.toNat_natCast, anyB, decide_eq_true_eq, decide_eq_false_iff_not, and_true, Bool.not_eq_true', Bool.or_eq_true, Bool.or_eq_false_iff] at h h1 h2 h3 ⊢
  all_goals grind
theorem fits31_all (hu : o.uf = UF) (hi : i ≤ stop (B31 (o.v 7001)) (o.v 7001).T.length) (hn : ((o.v 7001).T.length : Int) ≤ 9223372036854775807) : AllL (fits31.env o u i) fits31L0 := by
  have h1 := @stop_yes (B31 (o.v 7001)) (o.v 7001).T.length i hi
  have h2 := @stop_no (B31 (o.v 7001)) (o.v 7001).T.length i hi
  have h3 := @stop_end (B31 (o.v 7001)) (o.v 7001).T.length i hi
  simp only [B31, bad31] at h1 h2
  simp only [fits31L0, allL_cons, allL_nil, and_true]
  and_intros
  all_goals intro h
  all_goals simp only [hold_cons_iff, hold_nil_iff, allT_cons, allT_nil, ob_e, dB_lt, dB_le, dB_ieq, dB_seq, dB_not, dB_beq, dB_bl, dI_il, dI_add, dI_size, dI_tlen, d_v, d_uf, d_cel, d_cell, d_il, ar_0, ar_1, LoopY.env, r_fits31, UF_1, UF_2, UF_3, UF_4, hu, if_true, if_false, Nat.reduceEqDiff, I_i, B_b, S_s, T_t, Int.toNat_natCast, anyB, most, decide_eq_true_eq, decide_eq_false_iff_not, and_true, Bool.not_eq_true', Bool.or_eq_true, Bool.or_eq_false_iff, Bool.not_eq_false'] at h h1 h2 h3 ⊢
  all_goals grind
theorem dup_all (hu : o.uf = UF) (hi : i ≤ stop (Bdup (o.v 7002) (o.v 7003)) (o.v 7002).T.length) (hn : ((o.v 7002).T.length : Int) ≤ 9223372036854775807) : AllL (dup.env o u i) dupL0 := by
  have h1 := @stop_yes (Bdup (o.v 7002) (o.v 7003)) (o.v 7002).T.length i hi
  have h2 := @stop_no (Bdup (o.v 7002) (o.v 7003)) (o.v 7002).T.length i hi
  have h3 := @stop_end (Bdup (o.v 7002) (o.v 7003)) (o.v 7002).T.length i hi
  simp only [Bdup] at h1 h2
  simp only [dupL0, allL_cons, allL_nil, and_true]
  and_intros
  all_goals intro h
  all_goals simp only [hold_cons_iff, hold_nil_iff, allT_cons, allT_nil, ob_e, dB_lt, dB_le, dB_ieq, dB_seq, dB_not, dB_beq, dB_bl, dI_il, dI_add, dI_size, dI_tlen, d_v, d_uf, d_cel, d_cell, d_il, ar_0, ar_1, LoopY.env, r_dup, UF_5, UF_6, hu, if_true, if_false, Nat.reduceEqDiff, I_i, B_b, S_s, T_t, Int.toNat_natCast, anyB, most, decide_eq_true_eq, decide_eq_false_iff_not, and_true, Bool.not_eq_true', Bool.or_eq_true, Bool.or_eq_false_iff, Bool.not_eq_false'] at h h1 h2 h3 ⊢
  all_goals grind
theorem pairs_all (hu : o.uf = UF) (hi : i ≤ stop (Bpairs (o.v 7005)) (o.v 7005).T.length) (hn : ((o.v 7005).T.length : Int) ≤ 9223372036854775807) : AllL (pairs.env o u i) pairsL0 := by
  have h1 := @stop_yes (Bpairs (o.v 7005)) (o.v 7005).T.length i hi
  have h2 := @stop_no (Bpairs (o.v 7005)) (o.v 7005).T.length i hi
  have h3 := @stop_end (Bpairs (o.v 7005)) (o.v 7005).T.length i hi
  simp only [Bpairs] at h1 h2
  simp only [pairsL0, allL_cons, allL_nil, and_true]
  and_intros
  all_goals intro h
  all_goals simp only [hold_cons_iff, hold_nil_iff, allT_cons, allT_nil, ob_e, dB_lt, dB_le, dB_ieq, dB_seq, dB_not, dB_beq, dB_bl, dI_il, dI_add, dI_size, dI_tlen, d_v, d_uf, d_cel, d_cell, d_il, ar_0, ar_1, LoopY.env, r_pairs, UF_5, UF_6, UF_7, UF_8, hu, if_true, if_false, Nat.reduceEqDiff, I_i, B_b, S_s, T_t, Int.toNat_natCast, anyB, most, decide_eq_true_eq, decide_eq_false_iff_not, and_true, Bool.not_eq_true', Bool.or_eq_true, Bool.or_eq_false_iff, Bool.not_eq_false', d_take] at h h1 h2 h3 ⊢
  all_goals grind
theorem steps_all (hu : o.uf = UF) (hi : i ≤ stop (B9 (o.v 7006)) (o.v 7006).T.length) (hn : ((o.v 7006).T.length : Int) ≤ 9223372036854775807) : AllL (steps.env o u i) stepsL0 := by
  have h1 := @stop_yes (B9 (o.v 7006)) (o.v 7006).T.length i hi
  have h2 := @stop_no (B9 (o.v 7006)) (o.v 7006).T.length i hi
  have h3 := @stop_end (B9 (o.v 7006)) (o.v 7006).T.length i hi
  simp only [B9, okStep] at h1 h2
  simp only [stepsL0, allL_cons, allL_nil, and_true]
  and_intros
  all_goals intro h
  all_goals simp only [hold_cons_iff, hold_nil_iff, allT_cons, allT_nil, ob_e, dB_lt, dB_le, dB_ieq, dB_seq, dB_not, dB_beq, dB_bl, dI_il, dI_add, dI_size, dI_tlen, d_v, d_uf, d_cel, d_cell, d_il, ar_0, ar_1, LoopY.env, r_steps, UF_7, UF_8, UF_9, UF_10, hu, if_true, if_false, Nat.reduceEqDiff, I_i, B_b, S_s, T_t, Int.toNat_natCast, anyB, most, decide_eq_true_eq, decide_eq_false_iff_not, and_true, Bool.not_eq_true', Bool.or_eq_true, Bool.or_eq_false_iff, Bool.not_eq_false', Bool.and_eq_true, Bool.and_eq_false_iff] at h h1 h2 h3 ⊢
  all_goals grind
end
end Go.Proofs.Ytckdphmpafopmaa.sxRetrying
