/-
  THE LAWS FnRetrying*: copying objects, and a step of impl.Retrying.
-/
import Derived.Test.YtckdphmpafopmaaSxR3RetryingB
namespace Go.Proofs.Ytckdphmpafopmaa.sxRetrying
open Go.Sx Go.RowKit
set_option linter.unusedVariables false
set_option linter.unusedSimpArgs false
set_option maxRecDepth 100000

theorem r_objIn : objIn.r = 2010 := rfl
theorem r_objOut : objOut.r = 2012 := rfl
theorem r_im : im.r = 2011 := rfl
theorem nil_of {d : Dv} {i : Nat} (h : ¬ i < d.T.length) (h0 : i = 0) : d.T = [] := List.length_eq_zero_iff.1 (by omega)
theorem take_all {d : Dv} {i : Nat} (h : ¬ i < d.T.length) : d.T.take i = d.T := List.take_of_length_le (by omega)
theorem cast_lt {i n : Nat} : ((i : Int) < (n : Int)) = (i < n) := by simp
section
variable {o : Env} {i : Nat} {u : Nat → Value}
theorem objIn_all0 (h0 : i = 0) (hi : i ≤ (o.v 7020).T.length) (hn : ((o.v 7020).T.length : Int) ≤ 2147483647) : AllL (objIn.env o u i) objInL0 := by
  have h1 := @nil_of (o.v 7020) i
  have h2 := @take_all (o.v 7020) i
  simp only [objInL0, allL_cons, allL_nil, and_true]
  and_intros
  all_goals intro h
  all_goals simp only [hold_cons_iff, hold_nil_iff, allT_cons, allT_nil, ob_e, ob_t, dB_lt, dB_le, dB_ieq, dB_seq, dB_not, dB_beq, dB_bl, dI_il, dI_add, dI_size, dI_tlen, d_v, d_uf, d_cel, d_cell, d_il, d_take, LoopY.env, r_objIn, if_true, if_false, Nat.reduceEqDiff, I_i, B_b, S_s, T_t, T_i, Int.toNat_natCast, decide_eq_true_eq, decide_eq_false_iff_not, and_true, Bool.not_eq_true', cast_lt] at h ⊢
  all_goals grind
theorem objIn_all1 (hi : i ≤ (o.v 7020).T.length) (hn : ((o.v 7020).T.length : Int) ≤ 2147483647) : AllL (objIn.env o u i) objInL1 := by
  have h2 := @take_all (o.v 7020) i
  simp only [objInL1, allL_cons, allL_nil, and_true]
  and_intros
  all_goals intro h
  all_goals simp only [hold_cons_iff, hold_nil_iff, allT_cons, allT_nil, ob_e, ob_t, dB_lt, dB_le, dB_ieq, dB_seq, dB_not, dB_beq, dB_bl, dI_il, dI_add, dI_size, dI_tlen, d_v, d_uf, d_cel, d_cell, d_il, d_take, dT_take, LoopY.env, r_objIn, if_true, if_false, Nat.reduceEqDiff, I_i, B_b, S_s, T_t, T_i, Int.toNat_natCast, decide_eq_true_eq, decide_eq_false_iff_not, and_true, Bool.not_eq_true', cast_lt] at h ⊢
  all_goals grind
theorem objOut_all0 (h0 : i = 0) (hi : i ≤ (o.v 7040).T.length) (hn : ((o.v 7040).T.length : Int) ≤ 2147483647) : AllL (objOut.env o u i) objOutL0 := by
  have h1 := @nil_of (o.v 7040) i
  have h2 := @take_all (o.v 7040) i
  simp only [objOutL0, allL_cons, allL_nil, and_true]
  and_intros
  all_goals intro h
  all_goals simp only [hold_cons_iff, hold_nil_iff, allT_cons, allT_nil, ob_e, ob_t, dB_lt, dB_le, dB_ieq, dB_seq, dB_not, dB_beq, dB_bl, dI_il, dI_add, dI_size, dI_tlen, d_v, d_uf, d_cel, d_cell, d_il, d_take, LoopY.env, r_objOut, if_true, if_false, Nat.reduceEqDiff, I_i, B_b, S_s, T_t, T_i, Int.toNat_natCast, decide_eq_true_eq, decide_eq_false_iff_not, and_true, Bool.not_eq_true', cast_lt] at h ⊢
  all_goals grind
theorem objOut_all1 (hi : i ≤ (o.v 7040).T.length) (hn : ((o.v 7040).T.length : Int) ≤ 2147483647) : AllL (objOut.env o u i) objOutL1 := by
  have h2 := @take_all (o.v 7040) i
  simp only [objOutL1, allL_cons, allL_nil, and_true]
  and_intros
  all_goals intro h
  all_goals simp only [hold_cons_iff, hold_nil_iff, allT_cons, allT_nil, ob_e, ob_t, dB_lt, dB_le, dB_ieq, dB_seq, dB_not, dB_beq, dB_bl, dI_il, dI_add, dI_size, dI_tlen, d_v, d_uf, d_cel, d_cell, d_il, d_take, dT_take, LoopY.env, r_objOut, if_true, if_false, Nat.reduceEqDiff, I_i, B_b, S_s, T_t, T_i, Int.toNat_natCast, decide_eq_true_eq, decide_eq_false_iff_not, and_true, Bool.not_eq_true', cast_lt] at h ⊢
  all_goals grind

/-- What a good operation is. -/
theorem good_of {l : List Dv} (h : okStep l = true) : 1 ≤ (cc l 0).I ∧ (cc l 0).I ≤ 5 ∧ ((cc l 6).T.length : Int) ≤ 4 ∧ 0 ≤ (cc l 11).I ∧ (cc l 11).I ≤ 1000000 ∧
    ((cc l 0).I = 2 → (cc l 10).I = 8 ∨ (cc l 10).I = 17 ∨ (cc l 10).I = 19 ∨ (cc l 10).I = 18 ∨ (cc l 10).I = 98) ∧
    ((cc l 0).I = 4 → (cc l 10).I = 17 ∨ (cc l 10).I = 12 ∨ (cc l 10).I = 18 ∨ (cc l 10).I = 98) ∧
    ((cc l 0).I = 3 → (cc l 1).I = 1 ∨ (cc l 1).I = 2 ∨ (cc l 1).I = 3 ∨ (cc l 1).I = 8) := by
  simp only [okStep, Bool.and_eq_true, Bool.or_eq_true, Bool.not_eq_true', decide_eq_true_eq, decide_eq_false_iff_not] at h
  grind
theorem good_steps {d : Dv} (h : anyB (B9 d) d.T.length = false) {i : Nat} (hi : i < d.T.length) : okStep (row d i) = true := by
  have := anyB_false h i hi
  unfold B9 at this
  simpa using this
theorem row_answers {rv : ByteArray} {rows : List (List Dv)} {i : Nat} (h : i < rows.length) : row (answers rv rows) i = ansAt rv rows i := by
  unfold row answers
  rw [T_t, List.getElem?_map, List.getElem?_range h]; rfl
theorem len_answers {rv : ByteArray} {rows : List (List Dv)} : (answers rv rows).T.length = rows.length := by
  unfold answers; rw [T_t]; simp
theorem st_succ {rv : ByteArray} {d : Dv} {i : Nat} : stAt rv d.T (i + 1) = (stepW (stAt rv d.T i) (row d i)).1 := rfl
theorem ans_eq {rv : ByteArray} {d : Dv} {i : Nat} : ansAt rv d.T i = (stepW (stAt rv d.T i) (row d i)).2 := rfl
theorem quo_mul (x : Int) : (x * 1000000000).tdiv 1000000000 = x := Int.mul_tdiv_cancel x (by decide)
end
end Go.Proofs.Ytckdphmpafopmaa.sxRetrying
