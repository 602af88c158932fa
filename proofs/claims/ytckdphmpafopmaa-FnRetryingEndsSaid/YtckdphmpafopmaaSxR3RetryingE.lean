/-
  THE LAWS FnRetrying*: a round of FnRetryingEnds.
-/
import Derived.Test.YtckdphmpafopmaaSxR3RetryingD
namespace Go.Proofs.Ytckdphmpafopmaa.sxRetrying
open Go.Sx Go.RowKit
set_option linter.unusedVariables false
set_option linter.unusedSimpArgs false
set_option maxRecDepth 100000
section
variable {o : Env} {i : Nat} {u : Nat → Value}

theorem r_en : en.r = 2013 := rfl
theorem row_one {a : List Dv} {l : List (List Dv)} : row (.t (a :: l)) 0 = a := id rfl
/-- As long as it is not done, the law's look at it is the watcher's own. -/
theorem op_eq {rv : ByteArray} {d : Dv} : ∀ {i : Nat}, i ≤ d.T.length → (∀ j, j < d.T.length → okStep (row d j) = true) → (stAt rv d.T i).dn = false → opAt rv d.T i = (stAt rv d.T i).op
  | 0, _, _, _ => rfl
  | i + 1, hi, hg, hd => by
    have hgd := good_of (hg i (by omega))
    have ih := @op_eq rv d i (by omega) hg
    have hr : (d.T[i]?).getD [] = row d i := rfl
    rw [st_succ] at hd ⊢
    unfold opAt
    rw [hr]
    generalize row d i = l at *
    generalize stAt rv d.T i = st at *
    obtain ⟨rv, op, dn⟩ := st
    cases dn
    · have ih := ih rfl
      rw [ih]
      cases op <;> simp only [stepW] at hd ⊢ <;> grind
    · simp [stepW] at hd
theorem op_succ {rv : ByteArray} {d : Dv} {i : Nat} : opAt rv d.T (i + 1) = if (stAt rv d.T i).dn = true then opAt rv d.T i else if (cc (row d i) 0).I = 1 then true else if (cc (row d i) 0).I = 4 ∨ (cc (row d i) 0).I = 5 then false else opAt rv d.T i := rfl
set_option maxHeartbeats 4000000 in
theorem en_all (hu : o.uf = UF) (hi : i ≤ (o.v 7050).T.length) (hn : ((o.v 7050).T.length : Int) ≤ 80) (hg : ∀ j, j < (o.v 7050).T.length → okStep (row (o.v 7050) j) = true) : AllL (en.env o u i) enL0 := by
  have hr : i < (o.v 7050).T.length → row (answers (o.v 7051).S (o.v 7050).T) i = (stepW (stAt (o.v 7051).S (o.v 7050).T i) (row (o.v 7050) i)).2 := fun h => row_answers h
  have hs : stAt (o.v 7051).S (o.v 7050).T (i + 1) = (stepW (stAt (o.v 7051).S (o.v 7050).T i) (row (o.v 7050) i)).1 := rfl
  have ho := @op_succ (o.v 7051).S (o.v 7050) i
  have hop := @op_eq (o.v 7051).S (o.v 7050) i hi hg
  have hgd : i < (o.v 7050).T.length → _ := fun h => good_of (hg i h)
  clear hg
  simp only [enL0, allL_cons, allL_nil, and_true]
  and_intros
  all_goals intro h
  all_goals simp only [hold_cons_iff, hold_nil_iff, allT_cons, allT_nil, ob_e, ob_t, dB_lt, dB_le, dB_ieq, dB_seq, dB_not, dB_beq, dB_bl, dS_sl, dI_il, dI_add, dI_mul, dI_quo, dI_mn, dI_mx, dI_size, dI_tlen, d_v, d_uf, d_cel, d_cell, d_il, d_bl, d_sl, d_add, d_take, dT_take, LoopY.env, r_en, hu, UF_20, UF_21, UF_22, UF_23, UF_30, ar_0, ar_1, ar_2, if_true, if_false, Nat.reduceEqDiff, I_i, B_b, S_s, T_t, T_i, T_cel, Int.toNat_natCast, Int.toNat_zero, toNat_succ, len_answers, decide_eq_true_eq, decide_eq_false_iff_not, and_true, Bool.not_eq_true', cast_lt, hs, ho] at h ⊢
  all_goals (by_cases hlt : i < (o.v 7050).T.length)
  all_goals try rw [hr hlt] at h
  all_goals try rw [hr hlt]
  all_goals try replace hgd := hgd hlt
  all_goals clear hr hs ho
  all_goals generalize row (o.v 7050) i = l at *
  all_goals generalize stAt (o.v 7051).S (o.v 7050).T i = st at *
  all_goals generalize opAt (o.v 7051).S (o.v 7050).T i = opl at *
  all_goals obtain ⟨rv, op, dn⟩ := st
  all_goals (first | (simp_all [stepW, errRow, evRow, idle, nos, cc_0, cc_1, cc_2, cc_3, cc_4, hd_1, hd_0, bytes_eq_nil, quo_mul, T_t, B_b, S_s, I_i, nosL, len_answers, row_one]; done) | (cases op <;> cases dn <;> cases opl <;> try simp_all [stepW, errRow, evRow, idle, nos, cc_0, cc_1, cc_2, cc_3, cc_4, hd_1, hd_0, bytes_eq_nil, quo_mul, T_t, B_b, S_s, I_i, nosL, len_answers, row_one]))
  all_goals (first | (grind; done) | ((repeat' split at h) <;> simp_all [cc_0, cc_1, cc_3, B_b] <;> (try omega)))
end
end Go.Proofs.Ytckdphmpafopmaa.sxRetrying
