/-
  THE LAW FnPagesWhole (proved): of a list that does not change all names are told. No conditions beside the law's own guards.
-/
import Derived.Test.YtgopjdknmjjheaaSxPwW
import Derived.Test.YtgopjdknmjjheaaSxMLoopH
namespace Go.Proofs.Ytgopjdknmjjheaa.sxPages
open Go.Sx Go.RowKit
set_option linter.unusedVariables false
set_option linter.unusedSimpArgs false
set_option maxRecDepth 100000

theorem pcY_obl0 : pcY.obl Try.prog 0 = some pcYL0 := by kernel_rfl
theorem pcY_obl1 : pcY.obl Try.prog 1 = some pcYL1 := by kernel_rfl
theorem nwY_obl : nwY.obl Try.prog 0 = some nwYL0 := by kernel_rfl
theorem clY_obl : clY.obl Try.prog 0 = some clYL0 := by kernel_rfl
section
variable {o : Env}
theorem pcY_ent {e : Env} (hu : e.uf = UF) (h : (pcY.ent 0).Hold e) : ((e.v 7080).T.length : Int) ≤ 60 ∧ 0 ≤ (e.v 7081).I ∧ (e.v 7081).I ≤ 100 ∧ anyB (B1 (e.v 7080)) (e.v 7080).T.length = false := by
  simp only [pcY, pk, List.foldr, hold_cons_iff, hold_nil_iff, dB_le, dI_il, dI_tlen, d_v, d_uf, d_cel, hu, UF_1, ar_0, B_b, decide_eq_true_eq, and_true] at h
  exact h
theorem pcY_ok (hu : o.uf = UF) : LpOk Try.prog o 17 3 pcY.lpP := by
  refine two_ok plain mixed (D := pcY) (by kernel_rfl) (fun e => lastN (e.v 7080) (e.v 7081).I) pcY_obl0 pcY_obl1 (fun m h => m_of h) (fun m h => m_of h) (fun _ => rfl) (fun _ _ _ _ _ _ _ => extOk_none)
    (fun e he h u => ?_) (fun e he h i u h0 hi => ?_) (fun e he h u => ?_) (fun e he h i u h0 hi => ?_) (fun e he h i u hi hl => ?_)
  · obtain ⟨h1, h2, h3, h4⟩ := pcY_ent (he.uf.trans hu) h
    exact pcY_all0 (he.uf.trans hu) h1 h2 h4
  · obtain ⟨h1, h2, h3, h4⟩ := pcY_ent (he.uf.trans hu) h
    have hp : posN (e.v 7080) (e.v 7081).I i < (e.v 7080).T.length := by
      have := last_lt (nm := e.v 7080) (sz := (e.v 7081).I) (i := i - 1) (by omega)
      rwa [show i - 1 + 1 = i by omega] at this
    exact pcY_all1 (he.uf.trans hu) h0 hi hp h1 h2 h4
  · have hu' := he.uf.trans hu
    obtain ⟨h1, h2, h3, h4⟩ := pcY_ent hu' h
    simp only [pcY, pcAt, r17, pk, List.foldr, List.cons_append, List.nil_append, hold_cons_iff, hold_nil_iff, dB_le, dB_lt, dB_ieq, dI_il, dI_tlen, d_v, d_uf, d_cel, d_il, LoopY.env, hu', UF_51, ar_0, ar_1, ar_2, pos_0, if_true, if_false, Nat.reduceEqDiff, I_i, Int.toNat_natCast, Int.toNat_zero, decide_eq_true_eq, and_true]
    omega
  · have hu' := he.uf.trans hu
    obtain ⟨h1, h2, h3, h4⟩ := pcY_ent hu' h
    have hp : posN (e.v 7080) (e.v 7081).I i < (e.v 7080).T.length := by
      have := last_lt (nm := e.v 7080) (sz := (e.v 7081).I) (i := i - 1) (by omega)
      rwa [show i - 1 + 1 = i by omega] at this
    have hle := @last_le (e.v 7080) (e.v 7081).I
    simp only [pcY, pcAt, r17, pk, List.foldr, List.cons_append, List.nil_append, hold_cons_iff, hold_nil_iff, dB_le, dB_lt, dB_ieq, dI_il, dI_tlen, d_v, d_uf, d_cel, d_il, LoopY.env, hu', UF_51, ar_0, ar_1, ar_2, if_true, if_false, Nat.reduceEqDiff, I_i, Int.toNat_natCast, Int.toNat_zero, decide_eq_true_eq, and_true]
    omega
  · have hu' := he.uf.trans hu
    simp only [pcY, pcT, r17, pk, List.foldr, dB_lt, dI_add, dI_il, dI_tlen, d_uf, d_cel, d_v, d_il, LoopY.env, hu', UF_50, ar_0, ar_1, ar_2, T_t, cutP_len, if_true, if_false, Nat.reduceEqDiff, I_i, decide_eq_true_eq] at hl
    omega
theorem cL_ok (A : Anchor) : ExtOk Try.prog o A (cL.x.toExt Try.prog) := by
  refine Ctr.ok (by kernel_rfl) (fun x hx => ?_) (fun x hx => by cases hx) A
  rcases List.mem_cons.1 hx with rfl | hx
  · exact shut_ok plain mixed live_says
  · cases hx
theorem nwY_ok (hu : o.uf = UF) : LpOk Try.prog o 5 7 nwY.lpP := by
  have ent : ∀ {e : Env}, (nwY.ent 0).Hold e → ((e.v 7090).T.length : Int) ≤ 9223372036854775807 := fun {e} h => of_decide_eq_true (h _ true (List.mem_cons_self ..))
  refine one_ok plain mixed (D := nwY) (by kernel_rfl) (fun e => stop (B9 (e.v 7090)) (e.v 7090).T.length) nwY_obl (fun m h => m_of h) (fun m h => m_of h) (fun _ => rfl) (fun _ _ _ A _ _ _ => cL_ok A)
    (fun e he h i u hi => nwY_all (he.uf.trans hu) hi (ent h)) (fun e he h i u hi => ?_) (fun e he h i u hi hl => ?_)
  · have h1 := ent h
    have := @stop_le (B9 (e.v 7090)) (e.v 7090).T.length
    simp only [nwY, r18, hold_cons_iff, hold_nil_iff, dB_le, dI_il, dI_tlen, d_v, LoopY.env, if_true, if_false, Nat.reduceEqDiff, I_i, decide_eq_true_eq, and_true]
    omega
  · have hu' := he.uf.trans hu
    simp only [nwY, r18, pk, List.foldr, dB_lt, d_uf, d_cel, d_v, d_il, LoopY.env, hu', UF_55, ar_0, if_true, if_false, Nat.reduceEqDiff, I_i, decide_eq_true_eq] at hl
    omega
theorem clY_ent {e : Env} (h : (clY.ent 0).Hold e) : (e.v 7095).T.length = (e.v 7098).T.length ∧ ((e.v 7095).T.length : Int) ≤ 9223372036854775807 := by
  simp only [clY, clE, hold_cons_iff, hold_nil_iff, dB_le, dB_ieq, dI_il, dI_tlen, d_v, decide_eq_true_eq, and_true] at h
  omega
theorem clY_ok (hu : o.uf = UF) : LpOk Try.prog o 5 16 clY.lpP := by
  refine one_ok plain mixed (D := clY) (by kernel_rfl) (fun e => stop (Bcl (e.v 7095) (e.v 7096).I (e.v 7097).S (e.v 7098)) (e.v 7095).T.length) clY_obl (fun m h => m_of h) (fun m h => m_of h) (fun _ => rfl) (fun _ _ _ _ _ _ _ => extOk_none)
    (fun e he h i u hi => clY_all (he.uf.trans hu) hi (clY_ent h).1) (fun e he h i u hi => ?_) (fun e he h i u hi hl => ?_)
  · obtain ⟨h1, h2⟩ := clY_ent h
    have := @stop_le (Bcl (e.v 7095) (e.v 7096).I (e.v 7097).S (e.v 7098)) (e.v 7095).T.length
    simp only [clY, clE, r19, List.cons_append, List.nil_append, hold_cons_iff, hold_nil_iff, dB_le, dB_ieq, dI_il, dI_tlen, d_v, LoopY.env, if_true, if_false, Nat.reduceEqDiff, I_i, decide_eq_true_eq, and_true]
    omega
  · have hu' := he.uf.trans hu
    simp only [clY, r19, clA, pk, List.foldr, dB_lt, d_uf, d_cel, d_v, d_il, LoopY.env, hu', UF_57, ar_0, ar_1, ar_2, ar_3, if_true, if_false, Nat.reduceEqDiff, I_i, decide_eq_true_eq] at hl
    omega
set_option maxHeartbeats 4000000 in
theorem pgF_all {e : Env} (hu : e.uf = UF) (h : pgF.ent.Hold e) : AllL e pgFL := by
  simp only [pgF, pk, List.foldr, hold_cons_iff, hold_nil_iff, dB_le, dI_il, dI_tlen, d_v, d_uf, d_cel, hu, UF_7, ar_0, B_b, decide_eq_true_eq, and_true] at h
  obtain ⟨h1, h2, h3, h4⟩ := h
  have he := @end_le (e.v 7115)
  have hl := itmsTo_len h2 (endN (e.v 7115) + 1)
  have hg0 := (good_pg h2 0).1
  have hg1 := (good_pg h2 (endN (e.v 7115) + 1)).1
  simp only [nmsAt] at hg0 hg1
  simp only [pgFL, allL_cons, allL_nil, and_true]
  and_intros
  all_goals intro h
  all_goals simp only [allT_cons, allT_nil, ob_e, dB_le, dI_il, dI_add, dI_tlen, d_v, d_uf, d_cel, d_cell, d_il, d_add, ar_0, ar_1, ar_4, I_i, B_b, T_t, Int.toNat_zero, toNat_succ, hu, UF_10, UF_13, UF_20, UF_22, ok_itms, ok_to, itms_len, decide_eq_true_eq, and_true, true_and]
  all_goals omega
theorem pgF_ok (hu : o.uf = UF) : FnOk Try.prog o 14 pgF.funP :=
  FunY.fun_ok plain mixed (D := pgF) pgF_obl (fun e' A hl => c5_ok (hl.uf.trans hu) A) (fun e' hl h => pgF_all (hl.uf.trans hu) h)
theorem c6_ok (hu : o.uf = UF) (A : Anchor) : ExtOk Try.prog o A ((c6.xf litF).toExt Try.prog) := by
  refine Ctr.okf (by kernel_rfl) (fun x hx => ?_) (fun x hx => ?_) litF A
  · have hx : x ∈ [(12, shutP true), (14, pgF.funP)] := hx
    simp only [List.mem_cons, List.not_mem_nil, or_false] at hx
    rcases hx with rfl | rfl
    · exact shut_ok plain mixed live_says
    · exact pgF_ok hu
  have hx : x ∈ [(17, 3, pcY.lpP), (5, 7, nwY.lpP), (5, 16, clY.lpP), (18, 4, txY.lpP), (16, 4, fits13.lpP)] := hx
  simp only [List.mem_cons, List.not_mem_nil, or_false] at hx
  rcases hx with rfl | rfl | rfl | rfl | rfl
  · exact pcY_ok hu
  · exact nwY_ok hu
  · exact clY_ok hu
  · exact txY_ok hu
  · exact fits13_ok hu
end
end Go.Proofs.Ytgopjdknmjjheaa.sxPages

namespace Go.Proofs.Ytgopjdknmjjheaa.sxPages
open Go.Sx Go.RowKit
set_option linter.unusedVariables false
set_option linter.unusedSimpArgs false
set_option maxRecDepth 100000

theorem fold_lost {nm : Dv} {sz : Int} {k : Nat} : Dv.t (List.take k (cutP nm sz s9) ++ ([[Dv.i 0, Dv.s ⟨#[]⟩, Dv.s ⟨#[]⟩, Dv.i 8]] ++ [[nm, Dv.s ⟨#[]⟩, s12, Dv.i 0]])) = lostP nm sz k := rfl
theorem l9 : (ByteArray.mk #[57]).toList = [57] := by decide +kernel
theorem l12 : (ByteArray.mk #[49, 50]).toList = [49, 50] := by decide +kernel
theorem toNat_s2 {z : Int} (h : 0 ≤ z) : (z + 1).toNat = z.toNat + 1 := by omega
theorem fold9 : Dv.s ⟨#[57]⟩ = s9 := rfl
theorem fold12 : Dv.s ⟨#[49, 50]⟩ = s12 := rfl
theorem s9S : s9.S.toList = [57] := l9
theorem s12S : s12.S.toList = [49, 50] := l12
theorem goodW_of {o : Env} (hu : o.uf = UF) (h : goodW.Hold o) : anyB (B9 (o.v 0)) (o.v 0).T.length = false ∧ (o.v 0).T.length ≤ 60 ∧ 0 ≤ (o.v 96).I := by
  simp only [goodW, okF, guardsW, List.map, pk, List.foldr, hold_cons_iff, hold_nil_iff, dB_lt, dI_il, dI_tlen, dI_size, d_v, d_uf, d_cel, hu, UF_54, ar_0, B_b, decide_eq_true_eq, decide_eq_false_iff_not, and_true] at h
  obtain ⟨h1, h2, h3, h4, h5, h6, h7, h8, h9⟩ := h
  exact ⟨h9, by omega, by omega⟩
theorem wP_den {o : Env} (hu : o.uf = UF) : wP.den o = .t (cutP (o.v 0) (o.v 32).I s9) := by
  simp only [wP, pk, List.foldr, d_uf, d_cel, d_v, d_sl, hu, UF_50, ar_0, ar_1, ar_2]; rfl
theorem wL_den {o : Env} (hu : o.uf = UF) : wL.den o = lostP (o.v 0) (o.v 32).I (o.v 96).I.toNat := by
  simp only [wL, d_cat, d_take, d_cel, d_sl, d_il, d_v, wP_den hu]; rfl
theorem kind_A {o : Env} (hu : o.uf = UF) : UF 24 (wA.den o) = .i (kindN false (.t (cutP (o.v 0) (o.v 32).I s9))) := by
  simp only [wA, pk, List.foldr, d_cel, d_bl, d_v, d_sl, UF_24, ar_0, ar_4, wP_den hu]; rfl
theorem kind_B {o : Env} (hu : o.uf = UF) (b : Bool) : UF 24 ((wB b).den o) = .i (kindN b (lostP (o.v 0) (o.v 32).I (o.v 96).I.toNat)) := by
  simp only [wB, pk, List.foldr, d_cel, d_bl, d_v, d_sl, UF_24, ar_0, ar_4, wL_den hu]; rfl
theorem kindW_A {o : Env} (hu : o.uf = UF) {k : Nat} (h : kindN false (.t (cutP (o.v 0) (o.v 32).I s9)) = k) (hk : k = 6 ∨ k = 7) : (kindW wA k).Hold o := by
  rcases hk with rfl | rfl <;> simp only [kindW, List.filter, Nat.blt, Nat.ble, List.map, List.cons_append, List.nil_append, List.append_nil, hold_cons_iff, hold_nil_iff, dB_ieq, dI_il, d_uf, d_il, hu, kind_A hu, h, I_i, and_true] <;> decide
theorem kindW_B {o : Env} (hu : o.uf = UF) {b : Bool} {k : Nat} (h : kindN b (lostP (o.v 0) (o.v 32).I (o.v 96).I.toNat) = k) (hk : k = 2 ∨ k = 3) : (kindW (wB b) k).Hold o := by
  rcases hk with rfl | rfl <;> simp only [kindW, List.filter, Nat.blt, Nat.ble, List.map, List.cons_append, List.nil_append, List.append_nil, hold_cons_iff, hold_nil_iff, dB_ieq, dI_il, d_uf, d_il, hu, kind_B hu, h, I_i, and_true] <;> decide
def casesW : List (Facts × List (Facts × List Ob)) := [(wFa, whLa), (wFb, whLb), (wFc, whLc), (wFd, whLd), (badF guardsW 0, whG0), (badF guardsW 1, whG1), (badF guardsW 2, whG2), (badF guardsW 3, whG3), (badF guardsW 4, whG4), (badF guardsW 5, whG5), (badF guardsW 6, whG6), (badF guardsW 7, whG7), (badF guardsW 8, whG8)]
theorem casesW_obl : ∀ c ∈ casesW, lawOblF Try.prog (c6.xf litF) 5 ksW 80 c.1 = some c.2 := by
  intro c hc
  simp only [casesW, List.mem_cons, List.not_mem_nil, or_false] at hc
  rcases hc with rfl | rfl | rfl | rfl | rfl | rfl | rfl | rfl | rfl | rfl | rfl | rfl | rfl
  · exact wh_a
  · exact wh_b
  · exact wh_c
  · exact wh_d
  · exact wh_g0
  · exact wh_g1
  · exact wh_g2
  · exact wh_g3
  · exact wh_g4
  · exact wh_g5
  · exact wh_g6
  · exact wh_g7
  · exact wh_g8
theorem wh_bad {o : Env} (hu : o.uf = UF) : AllL o whG0 ∧ AllL o whG1 ∧ AllL o whG2 ∧ AllL o whG3 ∧ AllL o whG4 ∧ AllL o whG5 ∧ AllL o whG6 ∧ AllL o whG7 ∧ AllL o whG8 := by
  simp only [whG0, whG1, whG2, whG3, whG4, whG5, whG6, whG7, whG8, allL_cons, allL_nil, allT_cons, allT_nil, ob_e, dB_bl, dB_ieq, dI_il, d_il, d_v, d_uf, d_cel, hu, UF_51, ar_0, ar_1, ar_2, I_i, Int.toNat_zero, pos_0, and_true, implies_true, true_and]
  intro _; decide
set_option maxHeartbeats 16000000 in
theorem wh_all_a {o : Env} (hu : o.uf = UF) : AllL o whLa := by
  simp only [whLa, allL_cons, allL_nil, and_true]
  and_intros
  all_goals intro h
  all_goals simp only [hold_cons_iff, hold_nil_iff, allT_cons, allT_nil, ob_e, ob_t, dB_lt, dB_le, dB_ieq, dB_seq, dB_not, dB_beq, dB_bl, dB_or, dI_il, dI_add, dI_sub, dI_size, dI_tlen, dS_sl, d_v, d_uf, d_cel, d_cell, d_il, d_bl, d_sl, d_add, d_size, d_tlen, d_take, d_cat, T_cel, hd_1, hd_0, ar_0, ar_1, ar_2, ar_3, ar_4, I_i, B_b, S_s, T_i, T_t, Int.toNat_zero, toNat_succ, hu, UF_1, UF_7, UF_10, UF_12, UF_13, UF_20, UF_22, UF_24, UF_25, UF_40, UF_50, UF_51, UF_54, UF_56, pos_0, fold9, fold12, fold_lost, names_itms, names_to, fst1_len, itms_len, ok_itms, ok_to, cut_end, cut_kind, cutP_len, len_to, List.length_take, nms_all, tx_same', cut_rv, cut_calls, calls_len, cl_ok, s9S, s12S, Bool.not_eq_true', decide_eq_true_eq, decide_eq_false_iff_not, and_true, true_and] at h ⊢
  all_goals try (exact trivial)
  all_goals first
    | omega
    | (have h9 : anyB (B9 (o.v 0)) (o.v 0).T.length = false := by grind
       have hn : (o.v 0).T.length ≤ 60 := by omega
       have hg := @cut_good (o.v 0) (o.v 32).I h9 hn
       have hl := @last_le (o.v 0) (o.v 32).I
       have t1 := @tx_same' (o.v 0)
       try simp only [hg] at h ⊢
       by_cases h0 : lastN (o.v 0) (o.v 32).I = 0
       · try simp only [h0, eq_self, if_true, nms_0 h0] at h ⊢
         first | omega | grind | (and_intros <;> first | omega | grind)
       · try simp only [h0, if_false] at h ⊢
         first
           | omega
           | grind
           | (and_intros <;> first | omega | grind))
    | skip
set_option maxHeartbeats 16000000 in
theorem wh_all_b {o : Env} (hu : o.uf = UF) : AllL o whLb := by
  simp only [whLb, allL_cons, allL_nil, and_true]
  and_intros
  all_goals intro h
  all_goals simp only [hold_cons_iff, hold_nil_iff, allT_cons, allT_nil, ob_e, ob_t, dB_lt, dB_le, dB_ieq, dB_seq, dB_not, dB_beq, dB_bl, dB_or, dI_il, dI_add, dI_sub, dI_size, dI_tlen, dS_sl, d_v, d_uf, d_cel, d_cell, d_il, d_bl, d_sl, d_add, d_size, d_tlen, d_take, d_cat, T_cel, hd_1, hd_0, ar_0, ar_1, ar_2, ar_3, ar_4, I_i, B_b, S_s, T_i, T_t, Int.toNat_zero, toNat_succ, hu, UF_1, UF_7, UF_10, UF_12, UF_13, UF_20, UF_22, UF_24, UF_25, UF_40, UF_50, UF_51, UF_54, UF_56, pos_0, fold9, fold12, fold_lost, names_itms, names_to, fst1_len, itms_len, ok_itms, ok_to, cut_end, cut_kind, cutP_len, len_to, List.length_take, nms_all, tx_same', cut_rv, cut_calls, calls_len, cl_ok, s9S, s12S, Bool.not_eq_true', decide_eq_true_eq, decide_eq_false_iff_not, and_true, true_and] at h ⊢
  all_goals try (exact trivial)
  all_goals first
    | omega
    | (have h9 : anyB (B9 (o.v 0)) (o.v 0).T.length = false := by grind
       have hn : (o.v 0).T.length ≤ 60 := by omega
       have hg := @cut_good (o.v 0) (o.v 32).I h9 hn
       have hl := @last_le (o.v 0) (o.v 32).I
       have t1 := @tx_same' (o.v 0)
       try simp only [hg] at h ⊢
       by_cases h0 : lastN (o.v 0) (o.v 32).I = 0
       · try simp only [h0, eq_self, if_true, nms_0 h0] at h ⊢
         first | omega | grind | (and_intros <;> first | omega | grind)
       · try simp only [h0, if_false] at h ⊢
         first
           | omega
           | grind
           | (and_intros <;> first | omega | grind))
    | skip
set_option maxHeartbeats 16000000 in
theorem wh_all_c {o : Env} (hu : o.uf = UF) : AllL o whLc := by
  simp only [whLc, allL_cons, allL_nil, and_true]
  and_intros
  all_goals intro h
  all_goals simp only [hold_cons_iff, hold_nil_iff, allT_cons, allT_nil, ob_e, ob_t, dB_lt, dB_le, dB_ieq, dB_seq, dB_not, dB_beq, dB_bl, dB_or, dI_il, dI_add, dI_sub, dI_size, dI_tlen, dS_sl, d_v, d_uf, d_cel, d_cell, d_il, d_bl, d_sl, d_add, d_size, d_tlen, d_take, d_cat, T_cel, hd_1, hd_0, ar_0, ar_1, ar_2, ar_3, ar_4, I_i, B_b, S_s, T_i, T_t, Int.toNat_zero, toNat_succ, hu, UF_1, UF_7, UF_10, UF_12, UF_13, UF_20, UF_22, UF_24, UF_25, UF_40, UF_50, UF_51, UF_54, UF_56, pos_0, fold9, fold12, fold_lost, names_itms, names_to, fst1_len, itms_len, ok_itms, ok_to, cut_end, cut_kind, cutP_len, len_to, List.length_take, nms_all, tx_same', cut_rv, cut_calls, calls_len, cl_ok, s9S, s12S, Bool.not_eq_true', decide_eq_true_eq, decide_eq_false_iff_not, and_true, true_and] at h ⊢
  all_goals try (exact trivial)
  all_goals first
    | omega
    | (have h9 : anyB (B9 (o.v 0)) (o.v 0).T.length = false := by grind
       have hn : (o.v 0).T.length ≤ 60 := by omega
       have hg := @cut_good (o.v 0) (o.v 32).I h9 hn
       have hl := @last_le (o.v 0) (o.v 32).I
       have t1 := @tx_same' (o.v 0)
       try simp only [hg] at h ⊢
       by_cases h0 : lastN (o.v 0) (o.v 32).I = 0
       · try simp only [h0, eq_self, if_true, nms_0 h0] at h ⊢
         first | omega | grind | (and_intros <;> first | omega | grind)
       · try simp only [h0, if_false] at h ⊢
         first
           | omega
           | grind
           | (and_intros <;> first | omega | grind))
    | skip
set_option maxHeartbeats 16000000 in
theorem wh_all_d {o : Env} (hu : o.uf = UF) : AllL o whLd := by
  simp only [whLd, allL_cons, allL_nil, and_true]
  and_intros
  all_goals intro h
  all_goals simp only [hold_cons_iff, hold_nil_iff, allT_cons, allT_nil, ob_e, ob_t, dB_lt, dB_le, dB_ieq, dB_seq, dB_not, dB_beq, dB_bl, dB_or, dI_il, dI_add, dI_sub, dI_size, dI_tlen, dS_sl, d_v, d_uf, d_cel, d_cell, d_il, d_bl, d_sl, d_add, d_size, d_tlen, d_take, d_cat, T_cel, hd_1, hd_0, ar_0, ar_1, ar_2, ar_3, ar_4, I_i, B_b, S_s, T_i, T_t, Int.toNat_zero, toNat_succ, hu, UF_1, UF_7, UF_10, UF_12, UF_13, UF_20, UF_22, UF_24, UF_25, UF_40, UF_50, UF_51, UF_54, UF_56, pos_0, fold9, fold12, fold_lost, names_itms, names_to, fst1_len, itms_len, ok_itms, ok_to, cut_end, cut_kind, cutP_len, len_to, List.length_take, nms_all, tx_same', cut_rv, cut_calls, calls_len, cl_ok, s9S, s12S, Bool.not_eq_true', decide_eq_true_eq, decide_eq_false_iff_not, and_true, true_and] at h ⊢
  all_goals try (exact trivial)
  all_goals first
    | omega
    | (have h9 : anyB (B9 (o.v 0)) (o.v 0).T.length = false := by grind
       have hn : (o.v 0).T.length ≤ 60 := by omega
       have hg := @cut_good (o.v 0) (o.v 32).I h9 hn
       have hl := @last_le (o.v 0) (o.v 32).I
       have t1 := @tx_same' (o.v 0)
       try simp only [hg] at h ⊢
       by_cases h0 : lastN (o.v 0) (o.v 32).I = 0
       · try simp only [h0, eq_self, if_true, nms_0 h0] at h ⊢
         first | omega | grind | (and_intros <;> first | omega | grind)
       · try simp only [h0, if_false] at h ⊢
         first
           | omega
           | grind
           | (and_intros <;> first | omega | grind))
    | skip
  all_goals
    have h9 : anyB (B9 (o.v 0)) (o.v 0).T.length = false := by grind
    have hn : (o.v 0).T.length ≤ 60 := by omega
    have hg := @cut_good (o.v 0) (o.v 32).I h9 hn
    have hl := @last_le (o.v 0) (o.v 32).I
    have t1 := @tx_same' (o.v 0)
    have hk0 : 0 < (o.v 96).I.toNat := by omega
    have hk1 : (o.v 96).I.toNat ≤ lastN (o.v 0) (o.v 32).I := by omega
    have hk2 := @toNat_s2 (o.v 96).I (by omega)
    have hlg := @lost_good (o.v 0) (o.v 32).I (o.v 96).I.toNat h9 hn hk1
    rw [lost_len hk1] at hlg
    simp only [hk2, lost_kind3 hk0 hk1, lost_kind2 hk1, lost_end hk1, lost_len hk1, lost_k1 hk1, lost_callsL hk0 hk1, lost_last hk0 hk1, cc_0, cc_s, T_t, I_i, S_s, s9S, s12S, t1, hlg, hg, nos, nosL, beq_self_eq_true, eq_self, true_and, and_true] at h ⊢
    first | omega | grind
theorem wh_cases (o : Env) (hu : o.uf = UF) : ∃ c ∈ casesW, c.1.Hold o ∧ AllL o c.2 := by
  rcases guards_split o guardsW with h | ⟨i, hi, h⟩
  · obtain ⟨h9, hn, h96⟩ := goodW_of hu h
    have hk := @cut_kind (o.v 0) (o.v 32).I
    have hl := @last_le (o.v 0) (o.v 32).I
    by_cases h0 : lastN (o.v 0) (o.v 32).I = 0
    · rw [h0, if_pos rfl] at hk
      exact ⟨(wFa, whLa), by simp [casesW], hold_append h (kindW_A hu (k := 6) hk (.inl rfl)), wh_all_a hu⟩
    · rw [if_neg h0] at hk
      have hA := kindW_A hu (k := 7) hk (.inr rfl)
      have hp : (wP.den o).T.length = lastN (o.v 0) (o.v 32).I + 1 := by rw [wP_den hu, T_t, cutP_len]
      by_cases h1 : (o.v 96).I = 0
      · refine ⟨(wFb, whLb), by simp [casesW], hold_append (hold_append h hA) ?_, wh_all_b hu⟩
        simp only [hold_cons_iff, hold_nil_iff, dB_ieq, dI_il, d_v, h1, and_true]; decide
      · by_cases h2 : ((lastN (o.v 0) (o.v 32).I + 1 : Nat) : Int) ≤ (o.v 96).I
        · refine ⟨(wFc, whLc), by simp [casesW], hold_append (hold_append h hA) ?_, wh_all_c hu⟩
          simp only [hold_cons_iff, hold_nil_iff, dB_ieq, dB_le, dI_il, dI_tlen, d_v, hp, and_true, decide_eq_true_eq, decide_eq_false_iff_not]
          omega
        · have k0 : 0 < (o.v 96).I.toNat := by omega
          have k1 : (o.v 96).I.toNat ≤ lastN (o.v 0) (o.v 32).I := by omega
          refine ⟨(wFd, whLd), by simp [casesW], hold_append (hold_append (hold_append (hold_append h hA) ?_) (kindW_B hu (k := 3) (lost_kind3 k0 k1) (.inr rfl))) (kindW_B hu (k := 2) (lost_kind2 k1) (.inl rfl)), wh_all_d hu⟩
          simp only [hold_cons_iff, hold_nil_iff, dB_ieq, dB_le, dI_il, dI_tlen, d_v, d_take, T_t, List.length_take, hp, and_true, decide_eq_true_eq, decide_eq_false_iff_not]
          omega
  · obtain ⟨g0, g1, g2, g3, g4, g5, g6, g7, g8⟩ := wh_bad hu
    have hi : i < 9 := hi
    match i, hi, h with
    | 0, _, h => exact ⟨(badF guardsW 0, whG0), List.mem_of_getElem? (i := 4) rfl, h, g0⟩
    | 1, _, h => exact ⟨(badF guardsW 1, whG1), List.mem_of_getElem? (i := 5) rfl, h, g1⟩
    | 2, _, h => exact ⟨(badF guardsW 2, whG2), List.mem_of_getElem? (i := 6) rfl, h, g2⟩
    | 3, _, h => exact ⟨(badF guardsW 3, whG3), List.mem_of_getElem? (i := 7) rfl, h, g3⟩
    | 4, _, h => exact ⟨(badF guardsW 4, whG4), List.mem_of_getElem? (i := 8) rfl, h, g4⟩
    | 5, _, h => exact ⟨(badF guardsW 5, whG5), List.mem_of_getElem? (i := 9) rfl, h, g5⟩
    | 6, _, h => exact ⟨(badF guardsW 6, whG6), List.mem_of_getElem? (i := 10) rfl, h, g6⟩
    | 7, _, h => exact ⟨(badF guardsW 7, whG7), List.mem_of_getElem? (i := 11) rfl, h, g7⟩
    | 8, _, h => exact ⟨(badF guardsW 8, whG8), List.mem_of_getElem? (i := 12) rfl, h, g8⟩

/-! ### the law -/
theorem ownW : ownKnob Try.prog.godebug = none := by kernel_rfl
theorem laidW : laidOutB Try.prog = true := by kernel_rfl
theorem wh_contract (H : Type) (enc : TypeId × Value → H) (W : World) (base : Nat) (args : Array Value) (ds gs : List (DataW H)) (before : List MemPlace)
    (hval : ∀ (j : Nat) t v, Try.f5.params[j]? = some t → args[j]? = some v → Value.okWide Try.prog W .any base t v)
    (hW : DataW.Whole enc Try.prog Try.f5.params.toList Rows.fnPagesWholeSpec.vars false W args.toList ds gs before) :
    Calls Try.prog 5 args W fun e W' => ∃ v, e = .returned v ∧ Rows.fnPagesWholeSpec.post enc Try.prog Try.f5 false true false false W args v W' :=
  law_contract laidW (ks := ksW) (tb := 4) (by kernel_rfl) (by kernel_rfl) (by kernel_rfl) (by kernel_rfl) rfl
    (fun ds hd => by
      match ds, hd with
      | [d, e, f, g], _ => rfl) (fun vs hl hall => law_by plain mixed (by decide) casesW casesW_obl (fun o A hu => c6_ok hu A) (fun o hu _ => wh_cases o hu) W vs hl hall) hval hW

theorem wh_lifted (os : Os) (started : os.Started) (H : Type) (enc : TypeId × Value → H) :
    ReturnsInHanded {} Try.checked os 5 .any (Rows.fnPagesWholeSpec.pre6 enc Try.prog Try.f5 Rows.fnPagesWholeRow.domain false) (Rows.fnPagesWholeSpec.post enc Try.prog Try.f5 false true false false) := by
  refine returnsInHanded_of_change (C := Try.checked) (s := Rows.fnPagesWholeSpec) ownW started (by kernel_rfl) Try.func5
    (ChangeSpec.witness6 (enc := enc) (C := Try.checked) false ⟨#[], #[.slice none 0 0, .int .i64 0, .string ⟨#[]⟩, .int .i64 0], []⟩ 8 (by kernel_rfl) (by kernel_rfl) (by kernel_rfl) (by kernel_rfl)) ?_
  intro W base args ds gs before hval hW _ _
  exact wh_contract H enc W base args ds gs before hval hW

theorem whProved : Rows.FnPagesWholeSaid :=
  OpenClaim.holds_of_wide 5 Try.f5 rfl rfl rfl rfl rfl rfl rfl ⟨rfl, rfl, rfl, rfl, rfl⟩ rfl rfl rfl rfl rfl (by kernel_rfl) Try.func5 (by kernel_rfl)
    (of_decide_eq_true (by kernel_rfl)) (by unfold Func.isWrapper; first | (rw [if_pos (by decide +kernel)]; kernel_rfl) | (rw [if_neg (by decide +kernel)]; exact ⟨rfl, rfl⟩))
    (fun os started H enc _ => wh_lifted os started H enc)

end Go.Proofs.Ytgopjdknmjjheaa.sxPages
