/-
  THE LAWS FnRetrying*: a round of impl.Retrying.
-/
import Derived.Test.YtckdphmpafopmaaSxRtL
namespace Go.Proofs.Ytckdphmpafopmaa.sxRetrying
open Go.Sx Go.RowKit
set_option linter.unusedVariables false
set_option linter.unusedSimpArgs false
set_option maxRecDepth 100000

theorem ar3 {a b : Dv} : ar (O2.den .cel a b) 0 = a := ar_0
theorem beq_iff {a b : Bool} : (a == b) = true ↔ a = b := by cases a <;> cases b <;> simp
theorem beq_not_iff {a b : Bool} : (a == b) = false ↔ a = !b := by cases a <;> cases b <;> simp
theorem toNat_succ (i : Nat) : ((i : Int) + 1).toNat = i + 1 := by omega
theorem list_beq {a b : List UInt8} : (a == b) = decide (a = b) := by
  by_cases h : a = b <;> simp [h]
theorem cc_0 {a : Dv} {l : List Dv} : cc (a :: l) 0 = a := id rfl
theorem cc_1 {a b : Dv} {l : List Dv} : cc (a :: b :: l) 1 = b := id rfl
theorem cc_2 {a b c : Dv} {l : List Dv} : cc (a :: b :: c :: l) 2 = c := id rfl
theorem cc_3 {a b c d : Dv} {l : List Dv} : cc (a :: b :: c :: d :: l) 3 = d := id rfl
theorem cc_4 {a b c d e : Dv} {l : List Dv} : cc (a :: b :: c :: d :: e :: l) 4 = e := id rfl
theorem hd_1 {a : List Dv} : [a].head?.getD [] = a := id rfl
theorem hd_0 : ([] : List (List Dv)).head?.getD [] = [] := id rfl
theorem nosL : (ByteArray.mk #[]).toList = [] := by decide +kernel
theorem bytes_eq_nil {s : ByteArray} : (s.toList == (ByteArray.mk #[]).toList) = decide (s.toList = []) := by rw [nosL]; exact list_beq
section
variable {o : Env} {i : Nat} {u : Nat → Value}
set_option maxHeartbeats 4000000 in
theorem im_all0 (hu : o.uf = UF) (hk : (cc (row (o.v 7030) 0) 0).I = 1) (hi : 0 ≤ (o.v 7030).T.length) (hn : ((o.v 7030).T.length : Int) ≤ 1000) (hg : ∀ j, j < (o.v 7030).T.length → okStep (row (o.v 7030) j) = true) : AllL (im.env o u 0) imL0 := by
  have hx : ¬ 0 < (o.v 7030).T.length → List.take 0 (answers (o.v 7031).S (o.v 7030).T).T = (answers (o.v 7031).S (o.v 7030).T).T := fun h => List.take_of_length_le (by rw [len_answers]; omega)
  have hx0 : ¬ 0 < (o.v 7030).T.length → (answers (o.v 7031).S (o.v 7030).T).T = [] := fun h => List.length_eq_zero_iff.1 (by rw [len_answers]; omega)
  have hl : (answers (o.v 7031).S (o.v 7030).T).T.length = (o.v 7030).T.length := len_answers
  have hr : 0 < (o.v 7030).T.length → row (answers (o.v 7031).S (o.v 7030).T) 0 = (stepW (stAt (o.v 7031).S (o.v 7030).T 0) (row (o.v 7030) 0)).2 := fun h => row_answers h
  have hs : stAt (o.v 7031).S (o.v 7030).T (0 + 1) = (stepW (stAt (o.v 7031).S (o.v 7030).T 0) (row (o.v 7030) 0)).1 := rfl
  have hgd : 0 < (o.v 7030).T.length → _ := fun h => good_of (hg 0 h)
  clear hg
  simp only [imL0, allL_cons, allL_nil, and_true]
  and_intros
  all_goals intro h
  all_goals simp only [hold_cons_iff, hold_nil_iff, allT_cons, allT_nil, ob_e, ob_t, dB_lt, dB_le, dB_ieq, dB_seq, dB_not, dB_beq, dB_bl, dS_sl, dI_il, dI_add, dI_mul, dI_quo, dI_mn, dI_mx, dI_size, dI_tlen, d_v, d_uf, d_cel, d_cell, d_il, d_bl, d_sl, d_add, d_take, dT_take, LoopY.env, r_im, hu, UF_20, UF_21, UF_22, UF_30, ar_0, ar_1, ar_2, if_true, if_false, Nat.reduceEqDiff, I_i, B_b, S_s, T_t, T_i, T_cel, Int.toNat_natCast, Int.toNat_zero, toNat_succ, decide_eq_true_eq, decide_eq_false_iff_not, and_true, Bool.not_eq_true', cast_lt, hs] at h ⊢
  all_goals (by_cases hlt : 0 < (o.v 7030).T.length)
  all_goals try rw [hr hlt]
  all_goals try replace hgd := hgd hlt
  all_goals clear hr hs
  all_goals generalize row (o.v 7030) 0 = l at *
  all_goals generalize stAt (o.v 7031).S (o.v 7030).T 0 = st at *
  all_goals obtain ⟨rv, op, dn⟩ := st
  all_goals first
    | (simp_all [stepW, errRow, evRow, idle, nos, cc_0, cc_1, cc_2, cc_3, cc_4, hd_1, hd_0, bytes_eq_nil, quo_mul, T_t, B_b, S_s, I_i, nosL]; done)
    | (cases op <;> cases dn <;> by_cases k2 : (cc l 0).I = 2 <;> first | (simp_all [stepW, errRow, evRow, idle, nos, cc_0, cc_1, cc_2, cc_3, cc_4, hd_1, hd_0, bytes_eq_nil, quo_mul, T_t, B_b, S_s, I_i, nosL]; done) | (simp_all [stepW, errRow, evRow, idle, nos, cc_0, cc_1, cc_2, cc_3, cc_4, hd_1, hd_0, bytes_eq_nil, quo_mul, T_t, B_b, S_s, I_i, nosL]; omega) | (simp_all [stepW, errRow, evRow, idle, nos, cc_0, cc_1, cc_2, cc_3, cc_4, hd_1, hd_0, bytes_eq_nil, quo_mul, T_t, B_b, S_s, I_i, nosL]; grind))
    | skip
set_option maxHeartbeats 4000000 in
theorem im_all1 (hu : o.uf = UF) (hk : (cc (row (o.v 7030) i) 0).I = 1) (hi : i ≤ (o.v 7030).T.length) (hn : ((o.v 7030).T.length : Int) ≤ 1000) (hg : ∀ j, j < (o.v 7030).T.length → okStep (row (o.v 7030) j) = true) : AllL (im.env o u i) imL1 := by
  have hx : ¬ i < (o.v 7030).T.length → List.take i (answers (o.v 7031).S (o.v 7030).T).T = (answers (o.v 7031).S (o.v 7030).T).T := fun h => List.take_of_length_le (by rw [len_answers]; omega)
  have hl : (answers (o.v 7031).S (o.v 7030).T).T.length = (o.v 7030).T.length := len_answers
  have hr : i < (o.v 7030).T.length → row (answers (o.v 7031).S (o.v 7030).T) i = (stepW (stAt (o.v 7031).S (o.v 7030).T i) (row (o.v 7030) i)).2 := fun h => row_answers h
  have hs : stAt (o.v 7031).S (o.v 7030).T (i + 1) = (stepW (stAt (o.v 7031).S (o.v 7030).T i) (row (o.v 7030) i)).1 := rfl
  have hgd : i < (o.v 7030).T.length → _ := fun h => good_of (hg i h)
  clear hg
  simp only [imL1, allL_cons, allL_nil, and_true]
  and_intros
  all_goals intro h
  all_goals simp only [hold_cons_iff, hold_nil_iff, allT_cons, allT_nil, ob_e, ob_t, dB_lt, dB_le, dB_ieq, dB_seq, dB_not, dB_beq, dB_bl, dS_sl, dI_il, dI_add, dI_mul, dI_quo, dI_mn, dI_mx, dI_size, dI_tlen, d_v, d_uf, d_cel, d_cell, d_il, d_bl, d_sl, d_add, d_take, dT_take, LoopY.env, r_im, hu, UF_20, UF_21, UF_22, UF_30, ar_0, ar_1, ar_2, if_true, if_false, Nat.reduceEqDiff, I_i, B_b, S_s, T_t, T_i, T_cel, Int.toNat_natCast, toNat_succ, decide_eq_true_eq, decide_eq_false_iff_not, and_true, Bool.not_eq_true', cast_lt, hs] at h ⊢
  all_goals (by_cases hlt : i < (o.v 7030).T.length)
  all_goals try rw [hr hlt]
  all_goals try replace hgd := hgd hlt
  all_goals clear hr hs
  all_goals generalize row (o.v 7030) i = l at *
  all_goals generalize stAt (o.v 7031).S (o.v 7030).T i = st at *
  all_goals obtain ⟨rv, op, dn⟩ := st
  all_goals first
    | (simp_all [stepW, errRow, evRow, idle, nos, cc_0, cc_1, cc_2, cc_3, cc_4, hd_1, hd_0, bytes_eq_nil, quo_mul, T_t, B_b, S_s, I_i, nosL]; done)
    | (cases op <;> cases dn <;> by_cases k2 : (cc l 0).I = 2 <;> first | (simp_all [stepW, errRow, evRow, idle, nos, cc_0, cc_1, cc_2, cc_3, cc_4, hd_1, hd_0, bytes_eq_nil, quo_mul, T_t, B_b, S_s, I_i, nosL]; done) | (simp_all [stepW, errRow, evRow, idle, nos, cc_0, cc_1, cc_2, cc_3, cc_4, hd_1, hd_0, bytes_eq_nil, quo_mul, T_t, B_b, S_s, I_i, nosL]; omega) | (simp_all [stepW, errRow, evRow, idle, nos, cc_0, cc_1, cc_2, cc_3, cc_4, hd_1, hd_0, bytes_eq_nil, quo_mul, T_t, B_b, S_s, I_i, nosL]; grind))
    | skip
set_option maxHeartbeats 4000000 in
theorem im_all2 (hu : o.uf = UF) (hk : (cc (row (o.v 7030) 0) 0).I = 2) (hi : 0 ≤ (o.v 7030).T.length) (hn : ((o.v 7030).T.length : Int) ≤ 1000) (hg : ∀ j, j < (o.v 7030).T.length → okStep (row (o.v 7030) j) = true) : AllL (im.env o u 0) imL2 := by
  have hx : ¬ 0 < (o.v 7030).T.length → List.take 0 (answers (o.v 7031).S (o.v 7030).T).T = (answers (o.v 7031).S (o.v 7030).T).T := fun h => List.take_of_length_le (by rw [len_answers]; omega)
  have hx0 : ¬ 0 < (o.v 7030).T.length → (answers (o.v 7031).S (o.v 7030).T).T = [] := fun h => List.length_eq_zero_iff.1 (by rw [len_answers]; omega)
  have hl : (answers (o.v 7031).S (o.v 7030).T).T.length = (o.v 7030).T.length := len_answers
  have hr : 0 < (o.v 7030).T.length → row (answers (o.v 7031).S (o.v 7030).T) 0 = (stepW (stAt (o.v 7031).S (o.v 7030).T 0) (row (o.v 7030) 0)).2 := fun h => row_answers h
  have hs : stAt (o.v 7031).S (o.v 7030).T (0 + 1) = (stepW (stAt (o.v 7031).S (o.v 7030).T 0) (row (o.v 7030) 0)).1 := rfl
  have hgd : 0 < (o.v 7030).T.length → _ := fun h => good_of (hg 0 h)
  clear hg
  simp only [imL2, allL_cons, allL_nil, and_true]
  and_intros
  all_goals intro h
  all_goals simp only [hold_cons_iff, hold_nil_iff, allT_cons, allT_nil, ob_e, ob_t, dB_lt, dB_le, dB_ieq, dB_seq, dB_not, dB_beq, dB_bl, dS_sl, dI_il, dI_add, dI_mul, dI_quo, dI_mn, dI_mx, dI_size, dI_tlen, d_v, d_uf, d_cel, d_cell, d_il, d_bl, d_sl, d_add, d_take, dT_take, LoopY.env, r_im, hu, UF_20, UF_21, UF_22, UF_30, ar_0, ar_1, ar_2, if_true, if_false, Nat.reduceEqDiff, I_i, B_b, S_s, T_t, T_i, T_cel, Int.toNat_natCast, Int.toNat_zero, toNat_succ, decide_eq_true_eq, decide_eq_false_iff_not, and_true, Bool.not_eq_true', cast_lt, hs] at h ⊢
  all_goals (by_cases hlt : 0 < (o.v 7030).T.length)
  all_goals try rw [hr hlt]
  all_goals try replace hgd := hgd hlt
  all_goals clear hr hs
  all_goals generalize row (o.v 7030) 0 = l at *
  all_goals generalize stAt (o.v 7031).S (o.v 7030).T 0 = st at *
  all_goals obtain ⟨rv, op, dn⟩ := st
  all_goals first
    | (simp_all [stepW, errRow, evRow, idle, nos, cc_0, cc_1, cc_2, cc_3, cc_4, hd_1, hd_0, bytes_eq_nil, quo_mul, T_t, B_b, S_s, I_i, nosL]; done)
    | (cases op <;> cases dn <;> by_cases k2 : (cc l 0).I = 2 <;> first | (simp_all [stepW, errRow, evRow, idle, nos, cc_0, cc_1, cc_2, cc_3, cc_4, hd_1, hd_0, bytes_eq_nil, quo_mul, T_t, B_b, S_s, I_i, nosL]; done) | (simp_all [stepW, errRow, evRow, idle, nos, cc_0, cc_1, cc_2, cc_3, cc_4, hd_1, hd_0, bytes_eq_nil, quo_mul, T_t, B_b, S_s, I_i, nosL]; omega) | (simp_all [stepW, errRow, evRow, idle, nos, cc_0, cc_1, cc_2, cc_3, cc_4, hd_1, hd_0, bytes_eq_nil, quo_mul, T_t, B_b, S_s, I_i, nosL]; grind))
    | skip
set_option maxHeartbeats 4000000 in
theorem im_all3 (hu : o.uf = UF) (hk : (cc (row (o.v 7030) i) 0).I = 2) (hi : i ≤ (o.v 7030).T.length) (hn : ((o.v 7030).T.length : Int) ≤ 1000) (hg : ∀ j, j < (o.v 7030).T.length → okStep (row (o.v 7030) j) = true) : AllL (im.env o u i) imL3 := by
  have hx : ¬ i < (o.v 7030).T.length → List.take i (answers (o.v 7031).S (o.v 7030).T).T = (answers (o.v 7031).S (o.v 7030).T).T := fun h => List.take_of_length_le (by rw [len_answers]; omega)
  have hl : (answers (o.v 7031).S (o.v 7030).T).T.length = (o.v 7030).T.length := len_answers
  have hr : i < (o.v 7030).T.length → row (answers (o.v 7031).S (o.v 7030).T) i = (stepW (stAt (o.v 7031).S (o.v 7030).T i) (row (o.v 7030) i)).2 := fun h => row_answers h
  have hs : stAt (o.v 7031).S (o.v 7030).T (i + 1) = (stepW (stAt (o.v 7031).S (o.v 7030).T i) (row (o.v 7030) i)).1 := rfl
  have hgd : i < (o.v 7030).T.length → _ := fun h => good_of (hg i h)
  clear hg
  simp only [imL3, allL_cons, allL_nil, and_true]
  and_intros
  all_goals intro h
  all_goals simp only [hold_cons_iff, hold_nil_iff, allT_cons, allT_nil, ob_e, ob_t, dB_lt, dB_le, dB_ieq, dB_seq, dB_not, dB_beq, dB_bl, dS_sl, dI_il, dI_add, dI_mul, dI_quo, dI_mn, dI_mx, dI_size, dI_tlen, d_v, d_uf, d_cel, d_cell, d_il, d_bl, d_sl, d_add, d_take, dT_take, LoopY.env, r_im, hu, UF_20, UF_21, UF_22, UF_30, ar_0, ar_1, ar_2, if_true, if_false, Nat.reduceEqDiff, I_i, B_b, S_s, T_t, T_i, T_cel, Int.toNat_natCast, toNat_succ, decide_eq_true_eq, decide_eq_false_iff_not, and_true, Bool.not_eq_true', cast_lt, hs] at h ⊢
  all_goals (by_cases hlt : i < (o.v 7030).T.length)
  all_goals try rw [hr hlt]
  all_goals try replace hgd := hgd hlt
  all_goals clear hr hs
  all_goals generalize row (o.v 7030) i = l at *
  all_goals generalize stAt (o.v 7031).S (o.v 7030).T i = st at *
  all_goals obtain ⟨rv, op, dn⟩ := st
  all_goals first
    | (simp_all [stepW, errRow, evRow, idle, nos, cc_0, cc_1, cc_2, cc_3, cc_4, hd_1, hd_0, bytes_eq_nil, quo_mul, T_t, B_b, S_s, I_i, nosL]; done)
    | (cases op <;> cases dn <;> by_cases k2 : (cc l 0).I = 2 <;> first | (simp_all [stepW, errRow, evRow, idle, nos, cc_0, cc_1, cc_2, cc_3, cc_4, hd_1, hd_0, bytes_eq_nil, quo_mul, T_t, B_b, S_s, I_i, nosL]; done) | (simp_all [stepW, errRow, evRow, idle, nos, cc_0, cc_1, cc_2, cc_3, cc_4, hd_1, hd_0, bytes_eq_nil, quo_mul, T_t, B_b, S_s, I_i, nosL]; omega) | (simp_all [stepW, errRow, evRow, idle, nos, cc_0, cc_1, cc_2, cc_3, cc_4, hd_1, hd_0, bytes_eq_nil, quo_mul, T_t, B_b, S_s, I_i, nosL]; grind))
    | skip
set_option maxHeartbeats 4000000 in
theorem im_all4 (hu : o.uf = UF) (hk : (cc (row (o.v 7030) 0) 0).I = 3) (hi : 0 ≤ (o.v 7030).T.length) (hn : ((o.v 7030).T.length : Int) ≤ 1000) (hg : ∀ j, j < (o.v 7030).T.length → okStep (row (o.v 7030) j) = true) : AllL (im.env o u 0) imL4 := by
  have hx : ¬ 0 < (o.v 7030).T.length → List.take 0 (answers (o.v 7031).S (o.v 7030).T).T = (answers (o.v 7031).S (o.v 7030).T).T := fun h => List.take_of_length_le (by rw [len_answers]; omega)
  have hx0 : ¬ 0 < (o.v 7030).T.length → (answers (o.v 7031).S (o.v 7030).T).T = [] := fun h => List.length_eq_zero_iff.1 (by rw [len_answers]; omega)
  have hl : (answers (o.v 7031).S (o.v 7030).T).T.length = (o.v 7030).T.length := len_answers
  have hr : 0 < (o.v 7030).T.length → row (answers (o.v 7031).S (o.v 7030).T) 0 = (stepW (stAt (o.v 7031).S (o.v 7030).T 0) (row (o.v 7030) 0)).2 := fun h => row_answers h
  have hs : stAt (o.v 7031).S (o.v 7030).T (0 + 1) = (stepW (stAt (o.v 7031).S (o.v 7030).T 0) (row (o.v 7030) 0)).1 := rfl
  have hgd : 0 < (o.v 7030).T.length → _ := fun h => good_of (hg 0 h)
  clear hg
  simp only [imL4, allL_cons, allL_nil, and_true]
  and_intros
  all_goals intro h
  all_goals simp only [hold_cons_iff, hold_nil_iff, allT_cons, allT_nil, ob_e, ob_t, dB_lt, dB_le, dB_ieq, dB_seq, dB_not, dB_beq, dB_bl, dS_sl, dI_il, dI_add, dI_mul, dI_quo, dI_mn, dI_mx, dI_size, dI_tlen, d_v, d_uf, d_cel, d_cell, d_il, d_bl, d_sl, d_add, d_take, dT_take, LoopY.env, r_im, hu, UF_20, UF_21, UF_22, UF_30, ar_0, ar_1, ar_2, if_true, if_false, Nat.reduceEqDiff, I_i, B_b, S_s, T_t, T_i, T_cel, Int.toNat_natCast, Int.toNat_zero, toNat_succ, decide_eq_true_eq, decide_eq_false_iff_not, and_true, Bool.not_eq_true', cast_lt, hs] at h ⊢
  all_goals (by_cases hlt : 0 < (o.v 7030).T.length)
  all_goals try rw [hr hlt]
  all_goals try replace hgd := hgd hlt
  all_goals clear hr hs
  all_goals generalize row (o.v 7030) 0 = l at *
  all_goals generalize stAt (o.v 7031).S (o.v 7030).T 0 = st at *
  all_goals obtain ⟨rv, op, dn⟩ := st
  all_goals first
    | (simp_all [stepW, errRow, evRow, idle, nos, cc_0, cc_1, cc_2, cc_3, cc_4, hd_1, hd_0, bytes_eq_nil, quo_mul, T_t, B_b, S_s, I_i, nosL]; done)
    | (cases op <;> cases dn <;> by_cases k2 : (cc l 0).I = 2 <;> first | (simp_all [stepW, errRow, evRow, idle, nos, cc_0, cc_1, cc_2, cc_3, cc_4, hd_1, hd_0, bytes_eq_nil, quo_mul, T_t, B_b, S_s, I_i, nosL]; done) | (simp_all [stepW, errRow, evRow, idle, nos, cc_0, cc_1, cc_2, cc_3, cc_4, hd_1, hd_0, bytes_eq_nil, quo_mul, T_t, B_b, S_s, I_i, nosL]; omega) | (simp_all [stepW, errRow, evRow, idle, nos, cc_0, cc_1, cc_2, cc_3, cc_4, hd_1, hd_0, bytes_eq_nil, quo_mul, T_t, B_b, S_s, I_i, nosL]; grind))
    | skip
set_option maxHeartbeats 4000000 in
theorem im_all5 (hu : o.uf = UF) (hk : (cc (row (o.v 7030) i) 0).I = 3) (hi : i ≤ (o.v 7030).T.length) (hn : ((o.v 7030).T.length : Int) ≤ 1000) (hg : ∀ j, j < (o.v 7030).T.length → okStep (row (o.v 7030) j) = true) : AllL (im.env o u i) imL5 := by
  have hx : ¬ i < (o.v 7030).T.length → List.take i (answers (o.v 7031).S (o.v 7030).T).T = (answers (o.v 7031).S (o.v 7030).T).T := fun h => List.take_of_length_le (by rw [len_answers]; omega)
  have hl : (answers (o.v 7031).S (o.v 7030).T).T.length = (o.v 7030).T.length := len_answers
  have hr : i < (o.v 7030).T.length → row (answers (o.v 7031).S (o.v 7030).T) i = (stepW (stAt (o.v 7031).S (o.v 7030).T i) (row (o.v 7030) i)).2 := fun h => row_answers h
  have hs : stAt (o.v 7031).S (o.v 7030).T (i + 1) = (stepW (stAt (o.v 7031).S (o.v 7030).T i) (row (o.v 7030) i)).1 := rfl
  have hgd : i < (o.v 7030).T.length → _ := fun h => good_of (hg i h)
  clear hg
  simp only [imL5, allL_cons, allL_nil, and_true]
  and_intros
  all_goals intro h
  all_goals simp only [hold_cons_iff, hold_nil_iff, allT_cons, allT_nil, ob_e, ob_t, dB_lt, dB_le, dB_ieq, dB_seq, dB_not, dB_beq, dB_bl, dS_sl, dI_il, dI_add, dI_mul, dI_quo, dI_mn, dI_mx, dI_size, dI_tlen, d_v, d_uf, d_cel, d_cell, d_il, d_bl, d_sl, d_add, d_take, dT_take, LoopY.env, r_im, hu, UF_20, UF_21, UF_22, UF_30, ar_0, ar_1, ar_2, if_true, if_false, Nat.reduceEqDiff, I_i, B_b, S_s, T_t, T_i, T_cel, Int.toNat_natCast, toNat_succ, decide_eq_true_eq, decide_eq_false_iff_not, and_true, Bool.not_eq_true', cast_lt, hs] at h ⊢
  all_goals (by_cases hlt : i < (o.v 7030).T.length)
  all_goals try rw [hr hlt]
  all_goals try replace hgd := hgd hlt
  all_goals clear hr hs
  all_goals generalize row (o.v 7030) i = l at *
  all_goals generalize stAt (o.v 7031).S (o.v 7030).T i = st at *
  all_goals obtain ⟨rv, op, dn⟩ := st
  all_goals first
    | (simp_all [stepW, errRow, evRow, idle, nos, cc_0, cc_1, cc_2, cc_3, cc_4, hd_1, hd_0, bytes_eq_nil, quo_mul, T_t, B_b, S_s, I_i, nosL]; done)
    | (cases op <;> cases dn <;> by_cases k2 : (cc l 0).I = 2 <;> first | (simp_all [stepW, errRow, evRow, idle, nos, cc_0, cc_1, cc_2, cc_3, cc_4, hd_1, hd_0, bytes_eq_nil, quo_mul, T_t, B_b, S_s, I_i, nosL]; done) | (simp_all [stepW, errRow, evRow, idle, nos, cc_0, cc_1, cc_2, cc_3, cc_4, hd_1, hd_0, bytes_eq_nil, quo_mul, T_t, B_b, S_s, I_i, nosL]; omega) | (simp_all [stepW, errRow, evRow, idle, nos, cc_0, cc_1, cc_2, cc_3, cc_4, hd_1, hd_0, bytes_eq_nil, quo_mul, T_t, B_b, S_s, I_i, nosL]; grind))
    | skip
set_option maxHeartbeats 4000000 in
theorem im_all6 (hu : o.uf = UF) (hk : (cc (row (o.v 7030) 0) 0).I = 4) (hi : 0 ≤ (o.v 7030).T.length) (hn : ((o.v 7030).T.length : Int) ≤ 1000) (hg : ∀ j, j < (o.v 7030).T.length → okStep (row (o.v 7030) j) = true) : AllL (im.env o u 0) imL6 := by
  have hx : ¬ 0 < (o.v 7030).T.length → List.take 0 (answers (o.v 7031).S (o.v 7030).T).T = (answers (o.v 7031).S (o.v 7030).T).T := fun h => List.take_of_length_le (by rw [len_answers]; omega)
  have hx0 : ¬ 0 < (o.v 7030).T.length → (answers (o.v 7031).S (o.v 7030).T).T = [] := fun h => List.length_eq_zero_iff.1 (by rw [len_answers]; omega)
  have hl : (answers (o.v 7031).S (o.v 7030).T).T.length = (o.v 7030).T.length := len_answers
  have hr : 0 < (o.v 7030).T.length → row (answers (o.v 7031).S (o.v 7030).T) 0 = (stepW (stAt (o.v 7031).S (o.v 7030).T 0) (row (o.v 7030) 0)).2 := fun h => row_answers h
  have hs : stAt (o.v 7031).S (o.v 7030).T (0 + 1) = (stepW (stAt (o.v 7031).S (o.v 7030).T 0) (row (o.v 7030) 0)).1 := rfl
  have hgd : 0 < (o.v 7030).T.length → _ := fun h => good_of (hg 0 h)
  clear hg
  simp only [imL6, allL_cons, allL_nil, and_true]
  and_intros
  all_goals intro h
  all_goals simp only [hold_cons_iff, hold_nil_iff, allT_cons, allT_nil, ob_e, ob_t, dB_lt, dB_le, dB_ieq, dB_seq, dB_not, dB_beq, dB_bl, dS_sl, dI_il, dI_add, dI_mul, dI_quo, dI_mn, dI_mx, dI_size, dI_tlen, d_v, d_uf, d_cel, d_cell, d_il, d_bl, d_sl, d_add, d_take, dT_take, LoopY.env, r_im, hu, UF_20, UF_21, UF_22, UF_30, ar_0, ar_1, ar_2, if_true, if_false, Nat.reduceEqDiff, I_i, B_b, S_s, T_t, T_i, T_cel, Int.toNat_natCast, Int.toNat_zero, toNat_succ, decide_eq_true_eq, decide_eq_false_iff_not, and_true, Bool.not_eq_true', cast_lt, hs] at h ⊢
  all_goals (by_cases hlt : 0 < (o.v 7030).T.length)
  all_goals try rw [hr hlt]
  all_goals try replace hgd := hgd hlt
  all_goals clear hr hs
  all_goals generalize row (o.v 7030) 0 = l at *
  all_goals generalize stAt (o.v 7031).S (o.v 7030).T 0 = st at *
  all_goals obtain ⟨rv, op, dn⟩ := st
  all_goals first
    | (simp_all [stepW, errRow, evRow, idle, nos, cc_0, cc_1, cc_2, cc_3, cc_4, hd_1, hd_0, bytes_eq_nil, quo_mul, T_t, B_b, S_s, I_i, nosL]; done)
    | (cases op <;> cases dn <;> by_cases k2 : (cc l 0).I = 2 <;> first | (simp_all [stepW, errRow, evRow, idle, nos, cc_0, cc_1, cc_2, cc_3, cc_4, hd_1, hd_0, bytes_eq_nil, quo_mul, T_t, B_b, S_s, I_i, nosL]; done) | (simp_all [stepW, errRow, evRow, idle, nos, cc_0, cc_1, cc_2, cc_3, cc_4, hd_1, hd_0, bytes_eq_nil, quo_mul, T_t, B_b, S_s, I_i, nosL]; omega) | (simp_all [stepW, errRow, evRow, idle, nos, cc_0, cc_1, cc_2, cc_3, cc_4, hd_1, hd_0, bytes_eq_nil, quo_mul, T_t, B_b, S_s, I_i, nosL]; grind))
    | skip
set_option maxHeartbeats 4000000 in
theorem im_all7 (hu : o.uf = UF) (hk : (cc (row (o.v 7030) i) 0).I = 4) (hi : i ≤ (o.v 7030).T.length) (hn : ((o.v 7030).T.length : Int) ≤ 1000) (hg : ∀ j, j < (o.v 7030).T.length → okStep (row (o.v 7030) j) = true) : AllL (im.env o u i) imL7 := by
  have hx : ¬ i < (o.v 7030).T.length → List.take i (answers (o.v 7031).S (o.v 7030).T).T = (answers (o.v 7031).S (o.v 7030).T).T := fun h => List.take_of_length_le (by rw [len_answers]; omega)
  have hl : (answers (o.v 7031).S (o.v 7030).T).T.length = (o.v 7030).T.length := len_answers
  have hr : i < (o.v 7030).T.length → row (answers (o.v 7031).S (o.v 7030).T) i = (stepW (stAt (o.v 7031).S (o.v 7030).T i) (row (o.v 7030) i)).2 := fun h => row_answers h
  have hs : stAt (o.v 7031).S (o.v 7030).T (i + 1) = (stepW (stAt (o.v 7031).S (o.v 7030).T i) (row (o.v 7030) i)).1 := rfl
  have hgd : i < (o.v 7030).T.length → _ := fun h => good_of (hg i h)
  clear hg
  simp only [imL7, allL_cons, allL_nil, and_true]
  and_intros
  all_goals intro h
  all_goals simp only [hold_cons_iff, hold_nil_iff, allT_cons, allT_nil, ob_e, ob_t, dB_lt, dB_le, dB_ieq, dB_seq, dB_not, dB_beq, dB_bl, dS_sl, dI_il, dI_add, dI_mul, dI_quo, dI_mn, dI_mx, dI_size, dI_tlen, d_v, d_uf, d_cel, d_cell, d_il, d_bl, d_sl, d_add, d_take, dT_take, LoopY.env, r_im, hu, UF_20, UF_21, UF_22, UF_30, ar_0, ar_1, ar_2, if_true, if_false, Nat.reduceEqDiff, I_i, B_b, S_s, T_t, T_i, T_cel, Int.toNat_natCast, toNat_succ, decide_eq_true_eq, decide_eq_false_iff_not, and_true, Bool.not_eq_true', cast_lt, hs] at h ⊢
  all_goals (by_cases hlt : i < (o.v 7030).T.length)
  all_goals try rw [hr hlt]
  all_goals try replace hgd := hgd hlt
  all_goals clear hr hs
  all_goals generalize row (o.v 7030) i = l at *
  all_goals generalize stAt (o.v 7031).S (o.v 7030).T i = st at *
  all_goals obtain ⟨rv, op, dn⟩ := st
  all_goals first
    | (simp_all [stepW, errRow, evRow, idle, nos, cc_0, cc_1, cc_2, cc_3, cc_4, hd_1, hd_0, bytes_eq_nil, quo_mul, T_t, B_b, S_s, I_i, nosL]; done)
    | (cases op <;> cases dn <;> by_cases k2 : (cc l 0).I = 2 <;> first | (simp_all [stepW, errRow, evRow, idle, nos, cc_0, cc_1, cc_2, cc_3, cc_4, hd_1, hd_0, bytes_eq_nil, quo_mul, T_t, B_b, S_s, I_i, nosL]; done) | (simp_all [stepW, errRow, evRow, idle, nos, cc_0, cc_1, cc_2, cc_3, cc_4, hd_1, hd_0, bytes_eq_nil, quo_mul, T_t, B_b, S_s, I_i, nosL]; omega) | (simp_all [stepW, errRow, evRow, idle, nos, cc_0, cc_1, cc_2, cc_3, cc_4, hd_1, hd_0, bytes_eq_nil, quo_mul, T_t, B_b, S_s, I_i, nosL]; grind))
    | skip
set_option maxHeartbeats 4000000 in
theorem im_all8 (hu : o.uf = UF) (hk : (cc (row (o.v 7030) 0) 0).I ≠ 1 ∧ (cc (row (o.v 7030) 0) 0).I ≠ 2 ∧ (cc (row (o.v 7030) 0) 0).I ≠ 3 ∧ (cc (row (o.v 7030) 0) 0).I ≠ 4) (hi : 0 ≤ (o.v 7030).T.length) (hn : ((o.v 7030).T.length : Int) ≤ 1000) (hg : ∀ j, j < (o.v 7030).T.length → okStep (row (o.v 7030) j) = true) : AllL (im.env o u 0) imL8 := by
  have hx : ¬ 0 < (o.v 7030).T.length → List.take 0 (answers (o.v 7031).S (o.v 7030).T).T = (answers (o.v 7031).S (o.v 7030).T).T := fun h => List.take_of_length_le (by rw [len_answers]; omega)
  have hx0 : ¬ 0 < (o.v 7030).T.length → (answers (o.v 7031).S (o.v 7030).T).T = [] := fun h => List.length_eq_zero_iff.1 (by rw [len_answers]; omega)
  have hl : (answers (o.v 7031).S (o.v 7030).T).T.length = (o.v 7030).T.length := len_answers
  have hr : 0 < (o.v 7030).T.length → row (answers (o.v 7031).S (o.v 7030).T) 0 = (stepW (stAt (o.v 7031).S (o.v 7030).T 0) (row (o.v 7030) 0)).2 := fun h => row_answers h
  have hs : stAt (o.v 7031).S (o.v 7030).T (0 + 1) = (stepW (stAt (o.v 7031).S (o.v 7030).T 0) (row (o.v 7030) 0)).1 := rfl
  have hgd : 0 < (o.v 7030).T.length → _ := fun h => good_of (hg 0 h)
  clear hg
  simp only [imL8, allL_cons, allL_nil, and_true]
  and_intros
  all_goals intro h
  all_goals simp only [hold_cons_iff, hold_nil_iff, allT_cons, allT_nil, ob_e, ob_t, dB_lt, dB_le, dB_ieq, dB_seq, dB_not, dB_beq, dB_bl, dS_sl, dI_il, dI_add, dI_mul, dI_quo, dI_mn, dI_mx, dI_size, dI_tlen, d_v, d_uf, d_cel, d_cell, d_il, d_bl, d_sl, d_add, d_take, dT_take, LoopY.env, r_im, hu, UF_20, UF_21, UF_22, UF_30, ar_0, ar_1, ar_2, if_true, if_false, Nat.reduceEqDiff, I_i, B_b, S_s, T_t, T_i, T_cel, Int.toNat_natCast, Int.toNat_zero, toNat_succ, decide_eq_true_eq, decide_eq_false_iff_not, and_true, Bool.not_eq_true', cast_lt, hs] at h ⊢
  all_goals (by_cases hlt : 0 < (o.v 7030).T.length)
  all_goals try rw [hr hlt]
  all_goals try replace hgd := hgd hlt
  all_goals clear hr hs
  all_goals generalize row (o.v 7030) 0 = l at *
  all_goals generalize stAt (o.v 7031).S (o.v 7030).T 0 = st at *
  all_goals obtain ⟨rv, op, dn⟩ := st
  all_goals first
    | (simp_all [stepW, errRow, evRow, idle, nos, cc_0, cc_1, cc_2, cc_3, cc_4, hd_1, hd_0, bytes_eq_nil, quo_mul, T_t, B_b, S_s, I_i, nosL]; done)
    | (cases op <;> cases dn <;> by_cases k2 : (cc l 0).I = 2 <;> first | (simp_all [stepW, errRow, evRow, idle, nos, cc_0, cc_1, cc_2, cc_3, cc_4, hd_1, hd_0, bytes_eq_nil, quo_mul, T_t, B_b, S_s, I_i, nosL]; done) | (simp_all [stepW, errRow, evRow, idle, nos, cc_0, cc_1, cc_2, cc_3, cc_4, hd_1, hd_0, bytes_eq_nil, quo_mul, T_t, B_b, S_s, I_i, nosL]; omega) | (simp_all [stepW, errRow, evRow, idle, nos, cc_0, cc_1, cc_2, cc_3, cc_4, hd_1, hd_0, bytes_eq_nil, quo_mul, T_t, B_b, S_s, I_i, nosL]; grind))
    | skip
set_option maxHeartbeats 4000000 in
theorem im_all9 (hu : o.uf = UF) (hk : (cc (row (o.v 7030) i) 0).I ≠ 1 ∧ (cc (row (o.v 7030) i) 0).I ≠ 2 ∧ (cc (row (o.v 7030) i) 0).I ≠ 3 ∧ (cc (row (o.v 7030) i) 0).I ≠ 4) (hi : i ≤ (o.v 7030).T.length) (hn : ((o.v 7030).T.length : Int) ≤ 1000) (hg : ∀ j, j < (o.v 7030).T.length → okStep (row (o.v 7030) j) = true) : AllL (im.env o u i) imL9 := by
  have hx : ¬ i < (o.v 7030).T.length → List.take i (answers (o.v 7031).S (o.v 7030).T).T = (answers (o.v 7031).S (o.v 7030).T).T := fun h => List.take_of_length_le (by rw [len_answers]; omega)
  have hl : (answers (o.v 7031).S (o.v 7030).T).T.length = (o.v 7030).T.length := len_answers
  have hr : i < (o.v 7030).T.length → row (answers (o.v 7031).S (o.v 7030).T) i = (stepW (stAt (o.v 7031).S (o.v 7030).T i) (row (o.v 7030) i)).2 := fun h => row_answers h
  have hs : stAt (o.v 7031).S (o.v 7030).T (i + 1) = (stepW (stAt (o.v 7031).S (o.v 7030).T i) (row (o.v 7030) i)).1 := rfl
  have hgd : i < (o.v 7030).T.length → _ := fun h => good_of (hg i h)
  clear hg
  simp only [imL9, allL_cons, allL_nil, and_true]
  and_intros
  all_goals intro h
  all_goals simp only [hold_cons_iff, hold_nil_iff, allT_cons, allT_nil, ob_e, ob_t, dB_lt, dB_le, dB_ieq, dB_seq, dB_not, dB_beq, dB_bl, dS_sl, dI_il, dI_add, dI_mul, dI_quo, dI_mn, dI_mx, dI_size, dI_tlen, d_v, d_uf, d_cel, d_cell, d_il, d_bl, d_sl, d_add, d_take, dT_take, LoopY.env, r_im, hu, UF_20, UF_21, UF_22, UF_30, ar_0, ar_1, ar_2, if_true, if_false, Nat.reduceEqDiff, I_i, B_b, S_s, T_t, T_i, T_cel, Int.toNat_natCast, toNat_succ, decide_eq_true_eq, decide_eq_false_iff_not, and_true, Bool.not_eq_true', cast_lt, hs] at h ⊢
  all_goals (by_cases hlt : i < (o.v 7030).T.length)
  all_goals try rw [hr hlt]
  all_goals try replace hgd := hgd hlt
  all_goals clear hr hs
  all_goals generalize row (o.v 7030) i = l at *
  all_goals generalize stAt (o.v 7031).S (o.v 7030).T i = st at *
  all_goals obtain ⟨rv, op, dn⟩ := st
  all_goals first
    | (simp_all [stepW, errRow, evRow, idle, nos, cc_0, cc_1, cc_2, cc_3, cc_4, hd_1, hd_0, bytes_eq_nil, quo_mul, T_t, B_b, S_s, I_i, nosL]; done)
    | (cases op <;> cases dn <;> by_cases k2 : (cc l 0).I = 2 <;> first | (simp_all [stepW, errRow, evRow, idle, nos, cc_0, cc_1, cc_2, cc_3, cc_4, hd_1, hd_0, bytes_eq_nil, quo_mul, T_t, B_b, S_s, I_i, nosL]; done) | (simp_all [stepW, errRow, evRow, idle, nos, cc_0, cc_1, cc_2, cc_3, cc_4, hd_1, hd_0, bytes_eq_nil, quo_mul, T_t, B_b, S_s, I_i, nosL]; omega) | (simp_all [stepW, errRow, evRow, idle, nos, cc_0, cc_1, cc_2, cc_3, cc_4, hd_1, hd_0, bytes_eq_nil, quo_mul, T_t, B_b, S_s, I_i, nosL]; grind))
    | skip
end
end Go.Proofs.Ytckdphmpafopmaa.sxRetrying
