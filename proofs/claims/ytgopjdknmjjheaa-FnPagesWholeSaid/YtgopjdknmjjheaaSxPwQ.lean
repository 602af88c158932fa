/-
  THE LAWS FnPages*: their loops' contracts.
-/
import Derived.Test.YtgopjdknmjjheaaSxPwA
import Derived.Test.YtgopjdknmjjheaaRows
namespace Go.Proofs.Ytgopjdknmjjheaa.sxPages
open Go.Sx Go.RowKit
set_option linter.unusedVariables false
set_option linter.unusedSimpArgs false
set_option maxRecDepth 100000

theorem plain : Plain Try.prog := plain_of (by kernel_rfl)
theorem mixed : Try.prog.follows .mixedOrders = true := by kernel_rfl
theorem fits13_obl : fits13.obl Try.prog 0 = some fits13L0 := by kernel_rfl
theorem fits27_obl : fits27.obl Try.prog 0 = some fits27L0 := by kernel_rfl
theorem goodN_obl : goodN.obl Try.prog 0 = some goodNL0 := by kernel_rfl
theorem good_obl : good.obl Try.prog 0 = some goodL0 := by kernel_rfl
theorem inY_obl0 : inY.obl Try.prog 0 = some inYL0 := by kernel_rfl
theorem inY_obl1 : inY.obl Try.prog 1 = some inYL1 := by kernel_rfl
theorem agY_obl : agY.obl Try.prog 0 = some agYL0 := by kernel_rfl
theorem gaY_obl0 : gaY.obl Try.prog 0 = some gaYL0 := by kernel_rfl
theorem gaY_obl1 : gaY.obl Try.prog 1 = some gaYL1 := by kernel_rfl
theorem gbY_obl0 : gbY.obl Try.prog 0 = some gbYL0 := by kernel_rfl
theorem gbY_obl1 : gbY.obl Try.prog 1 = some gbYL1 := by kernel_rfl
theorem pmY_obl0 : pmY.obl Try.prog 0 = some pmYL0 := by kernel_rfl
theorem pmY_obl1 : pmY.obl Try.prog 1 = some pmYL1 := by kernel_rfl
theorem spY_obl0 : spY.obl Try.prog 0 = some spYL0 := by kernel_rfl
theorem spY_obl1 : spY.obl Try.prog 1 = some spYL1 := by kernel_rfl
theorem csY_obl : csY.obl Try.prog 0 = some csYL0 := by kernel_rfl
theorem txY_obl : txY.obl Try.prog 0 = some txYL0 := by kernel_rfl
theorem live_says : shutB Try.prog 12 400 80 true = true := by kernel_rfl
theorem m_of {m : Nat} {k : Nat} (h : Nat.beq m k = true) : m = k := Nat.eq_of_beq_eq_true h
section
variable {o : Env}
theorem fits13_ok (hu : o.uf = UF) : LpOk Try.prog o 16 4 fits13.lpP :=
  guard_ok plain mixed (D := fits13) rfl (by kernel_rfl) (by decide) rfl fits13_obl (B := fun e => B1 (e.v 7000)) (fun _ _ _ => rfl) (fun e he => by rw [he.uf, hu]; rfl) (fun _ _ _ _ _ => extOk_none) (fun e i u he hi hn => fits13_all (he.uf.trans hu) hi hn)
theorem c1_ok (hu : o.uf = UF) (A : Anchor) : ExtOk Try.prog o A (c1.x.toExt Try.prog) := by
  refine Ctr.ok (by kernel_rfl) (fun x hx => by cases hx) (fun x hx => ?_) A
  rcases List.mem_cons.1 hx with rfl | hx
  · exact fits13_ok hu
  · cases hx
theorem fits27_ok (hu : o.uf = UF) : LpOk Try.prog o 10 4 fits27.lpP :=
  guard_ok plain mixed (D := fits27) rfl (by kernel_rfl) (by decide) rfl fits27_obl (B := fun e => B3 (e.v 7001)) (fun _ _ _ => rfl) (fun e he => by rw [he.uf, hu]; rfl) (fun e i u A he => c1_ok (o := fits27.env e u i) (he.uf.trans hu) A) (fun e i u he hi hn => fits27_all (he.uf.trans hu) hi hn)
theorem goodN_ok (hu : o.uf = UF) : LpOk Try.prog o 11 9 goodN.lpP :=
  guard_ok plain mixed (D := goodN) rfl (by kernel_rfl) (by decide) rfl goodN_obl (B := fun e => B5 (e.v 7002)) (fun _ _ _ => rfl) (fun e he => by rw [he.uf, hu]; rfl) (fun _ _ _ _ _ => extOk_none) (fun e i u he hi hn => goodN_all (he.uf.trans hu) hi hn)
theorem c2_ok (hu : o.uf = UF) (A : Anchor) : ExtOk Try.prog o A (c2.x.toExt Try.prog) := by
  refine Ctr.ok (by kernel_rfl) (fun x hx => by cases hx) (fun x hx => ?_) A
  rcases List.mem_cons.1 hx with rfl | hx
  · exact goodN_ok hu
  · cases hx
theorem good_ok (hu : o.uf = UF) : LpOk Try.prog o 11 4 good.lpP :=
  guard_ok plain mixed (D := good) rfl (by kernel_rfl) (by decide) rfl good_obl (B := fun e => B7 (e.v 7003)) (fun _ _ _ => rfl) (fun e he => by rw [he.uf, hu]; rfl) (fun e i u A he => c2_ok (o := good.env e u i) (he.uf.trans hu) A) (fun e i u he hi hn => good_all (he.uf.trans hu) hi hn)
theorem inY_ent {e : Env} (h : (inY.ent 0).Hold e) : ((nmsAt (e.v 7010) (e.v 7011).I.toNat).T.length : Int) ≤ 1000 ∧ 0 ≤ (e.v 7011).I ∧ (e.v 7011).I < ((e.v 7010).T.length : Int) := by
  simp only [inY, inNm, hold_cons_iff, hold_nil_iff, dB_le, dB_lt, dI_il, dI_tlen, d_cell, d_v, decide_eq_true_eq, and_true] at h
  exact h
theorem inY_ok (hu : o.uf = UF) : LpOk Try.prog o 27 9 inY.lpP := by
  refine two_ok plain mixed (D := inY) (by kernel_rfl) (fun e => (nmsAt (e.v 7010) (e.v 7011).I.toNat).T.length) inY_obl0 inY_obl1 (fun m h => m_of h) (fun m h => m_of h) (fun _ => rfl) (fun _ _ _ _ _ _ _ => extOk_none)
    (fun e he h u => ?_) (fun e he h i u h0 hi => ?_) (fun e he h u => ?_) (fun e he h i u h0 hi => ?_) (fun e he h i u hi hl => ?_)
  · obtain ⟨h1, h2, h3⟩ := inY_ent h
    exact inY_all0 (he.uf.trans hu) h2 h3 h1
  · obtain ⟨h1, h2, h3⟩ := inY_ent h
    exact inY_all1 (he.uf.trans hu) h2 h3 h1 hi
  · obtain ⟨h1, h2, h3⟩ := inY_ent h
    simp only [nmsAt] at h1
    simp only [inY, inNm, r10, List.cons_append, List.nil_append, hold_cons_iff, hold_nil_iff, dB_le, dB_lt, dB_ieq, dI_il, dI_tlen, d_cell, d_v, LoopY.env, if_true, if_false, Nat.reduceEqDiff, I_i, decide_eq_true_eq, and_true]
    omega
  · obtain ⟨h1, h2, h3⟩ := inY_ent h
    simp only [nmsAt] at h1 hi
    simp only [inY, inNm, r10, List.cons_append, List.nil_append, hold_cons_iff, hold_nil_iff, dB_le, dB_lt, dB_ieq, dI_il, dI_tlen, d_cell, d_v, LoopY.env, if_true, if_false, Nat.reduceEqDiff, I_i, decide_eq_true_eq, and_true]
    omega
  · simp only [inY, inNm, r10, dB_lt, dI_tlen, d_cell, d_v, LoopY.env, if_true, if_false, Nat.reduceEqDiff, I_i, decide_eq_true_eq] at hl
    simp only [nmsAt]
    omega
theorem agY_ent {e : Env} (h : (agY.ent 0).Hold e) : ((e.v 7021).T.length : Int) ≤ 1000 ∧ ((e.v 7020).T.length : Int) ≤ 900000 := by
  simp only [agY, hold_cons_iff, hold_nil_iff, dB_le, dI_il, dI_tlen, d_v, decide_eq_true_eq, and_true] at h
  exact h
theorem agY_ok (hu : o.uf = UF) : LpOk Try.prog o 75 2 agY.lpP := by
  refine one_ok plain mixed (D := agY) (by kernel_rfl) (fun e => (e.v 7021).T.length) agY_obl (fun m h => m_of h) (fun m h => m_of h) (fun _ => rfl) (fun _ _ _ _ _ _ _ => extOk_none)
    (fun e he h i u hi => agY_all (he.uf.trans hu) (agY_ent h).1 (agY_ent h).2 hi) (fun e he h i u hi => ?_) (fun e he h i u hi hl => ?_)
  · have hu' := he.uf.trans hu
    obtain ⟨h1, h2⟩ := agY_ent h
    simp only [agY, agX, agA, r11, pk, List.foldr, hold_cons_iff, hold_nil_iff, dB_le, dI_il, dI_tlen, d_v, d_uf, d_cel, d_il, LoopY.env, hu', UF_11, ar_0, ar_1, ar_2, T_t, List.length_append, List.length_map, List.length_take, if_true, if_false, Nat.reduceEqDiff, I_i, Int.toNat_natCast, decide_eq_true_eq, and_true]
    omega
  · simp only [agY, r11, dB_lt, dI_tlen, d_v, LoopY.env, if_true, if_false, Nat.reduceEqDiff, I_i, decide_eq_true_eq] at hl
    omega
theorem okIt_at {d : Dv} (h : okIt d.T = true) (i : Nat) : (cc (row (cc (row d i) 0) 0) 4).T.length = 0 := by
  by_cases hi : i < d.T.length
  · have := List.all_eq_true.1 h _ (List.getElem_mem hi)
    have e : row d i = d.T[i] := by unfold row; rw [List.getElem?_eq_getElem hi]; rfl
    rw [e]
    exact of_decide_eq_true this
  · rw [row_out hi]; rfl
theorem gaE {f r T J : Nat} {K : DKs} {e : Env} (hu : e.uf = UF) (h : ((gaT f r T J K).ent 0).Hold e) : ((e.v 7030).T.length : Int) ≤ 1000000 ∧ okIt (e.v 7030).T = true := by
  simp only [gaT, pk, List.foldr, hold_cons_iff, hold_nil_iff, dB_le, dI_il, dI_tlen, d_v, d_uf, d_cel, hu, UF_13, ar_0, B_b, decide_eq_true_eq, and_true] at h
  exact h
theorem gaY_ok (hu : o.uf = UF) : LpOk Try.prog o 75 2 gaY.lpP := by
  refine two_ok plain mixed (D := gaY) (by kernel_rfl) (fun e => (e.v 7030).T.length) gaY_obl0 gaY_obl1 (fun m h => m_of h) (fun m h => m_of h) (fun _ => rfl) (fun _ _ _ _ _ _ _ => extOk_none)
    (fun e he h u => gaY_all0 (he.uf.trans hu)) (fun e he h i u h0 hi => gaY_all1 (he.uf.trans hu) hi) (fun e he h u => ?_) (fun e he h i u h0 hi => ?_) (fun e he h i u hi hl => ?_)
  · obtain ⟨h1, h2⟩ := gaE (he.uf.trans hu) h
    have h3 := okIt_at h2 0
    simp only [gaY, gaT, labs, r12, List.cons_append, List.nil_append, hold_cons_iff, hold_nil_iff, dB_le, dB_lt, dB_ieq, dI_il, dI_tlen, d_cell, d_v, d_il, LoopY.env, if_true, if_false, Nat.reduceEqDiff, I_i, Int.toNat_natCast, Int.toNat_zero, decide_eq_true_eq, and_true]
    omega
  · obtain ⟨h1, h2⟩ := gaE (he.uf.trans hu) h
    have h3 := okIt_at h2 i
    simp only [gaY, gaT, labs, r12, List.cons_append, List.nil_append, hold_cons_iff, hold_nil_iff, dB_le, dB_lt, dB_ieq, dI_il, dI_tlen, d_cell, d_v, d_il, LoopY.env, if_true, if_false, Nat.reduceEqDiff, I_i, Int.toNat_natCast, Int.toNat_zero, decide_eq_true_eq, and_true]
    omega
  · simp only [gaY, gaT, r12, dB_lt, dI_tlen, d_v, LoopY.env, if_true, if_false, Nat.reduceEqDiff, I_i, decide_eq_true_eq] at hl
    omega
theorem gbY_ok (hu : o.uf = UF) : LpOk Try.prog o 96 2 gbY.lpP := by
  refine two_ok plain mixed (D := gbY) (by kernel_rfl) (fun e => (e.v 7030).T.length) gbY_obl0 gbY_obl1 (fun m h => m_of h) (fun m h => m_of h) (fun _ => rfl) (fun _ _ _ _ _ _ _ => extOk_none)
    (fun e he h u => gbY_all0 (he.uf.trans hu)) (fun e he h i u h0 hi => gbY_all1 (he.uf.trans hu) hi) (fun e he h u => ?_) (fun e he h i u h0 hi => ?_) (fun e he h i u hi hl => ?_)
  · obtain ⟨h1, h2⟩ := gaE (he.uf.trans hu) h
    have h3 := okIt_at h2 0
    simp only [gbY, gaT, labs, r12, List.cons_append, List.nil_append, hold_cons_iff, hold_nil_iff, dB_le, dB_lt, dB_ieq, dI_il, dI_tlen, d_cell, d_v, d_il, LoopY.env, if_true, if_false, Nat.reduceEqDiff, I_i, Int.toNat_natCast, Int.toNat_zero, decide_eq_true_eq, and_true]
    omega
  · obtain ⟨h1, h2⟩ := gaE (he.uf.trans hu) h
    have h3 := okIt_at h2 i
    simp only [gbY, gaT, labs, r12, List.cons_append, List.nil_append, hold_cons_iff, hold_nil_iff, dB_le, dB_lt, dB_ieq, dI_il, dI_tlen, d_cell, d_v, d_il, LoopY.env, if_true, if_false, Nat.reduceEqDiff, I_i, Int.toNat_natCast, Int.toNat_zero, decide_eq_true_eq, and_true]
    omega
  · simp only [gbY, gaT, r12, dB_lt, dI_tlen, d_v, LoopY.env, if_true, if_false, Nat.reduceEqDiff, I_i, decide_eq_true_eq] at hl
    omega
theorem c4_ok (hu : o.uf = UF) (A : Anchor) : ExtOk Try.prog o A (c4.x.toExt Try.prog) := by
  refine Ctr.ok (by kernel_rfl) (fun x hx => by cases hx) (fun x hx => ?_) A
  rcases List.mem_cons.1 hx with rfl | hx
  · exact inY_ok hu
  · rcases List.mem_cons.1 hx with rfl | hx
    · exact agY_ok hu
    · cases hx
theorem pmY_ent {e : Env} (hu : e.uf = UF) (h : (pmY.ent 0).Hold e) : ((e.v 7045).T.length : Int) ≤ 66 ∧ anyB (B7 (e.v 7045)) (e.v 7045).T.length = false ∧ 0 ≤ (e.v 7044).I ∧ (e.v 7044).I ≤ 10000 ∧ 0 ≤ (e.v 7040).I ∧ (e.v 7040).I ≤ 10000 := by
  simp only [pmY, pk, List.foldr, hold_cons_iff, hold_nil_iff, dB_le, dI_il, dI_tlen, d_v, d_uf, d_cel, hu, UF_7, ar_0, B_b, decide_eq_true_eq, and_true] at h
  exact h
theorem pmY_ok (hu : o.uf = UF) : LpOk Try.prog o 46 7 pmY.lpP := by
  refine two_ok plain mixed (D := pmY) (by kernel_rfl) (fun e => endN (e.v 7045)) pmY_obl0 pmY_obl1 (fun m h => m_of h) (fun m h => m_of h) (fun n => by rcases n with _ | _ | _ | _ | _ | _ | _ | n <;> rfl) (fun e i u A he _ _ => c4_ok (o := pmY.env e u i) (he.uf.trans hu) A)
    (fun e he h u => ?_) (fun e he h i u h0 hi => ?_) (fun e he h u => ?_) (fun e he h i u h0 hi => ?_) (fun e he h i u hi hl => ?_)
  · exact pmY_all0 (he.uf.trans hu) (pmY_ent (he.uf.trans hu) h).2.1
  · exact pmY_all1 (he.uf.trans hu) (pmY_ent (he.uf.trans hu) h).2.1 hi h0
  · have hu' := he.uf.trans hu
    obtain ⟨h1, h7, h3, h4, h5, h6⟩ := pmY_ent hu' h
    have g0 := good_pg h7 0
    have g1 := good_pg h7 1
    simp only [nmsAt, erAt] at g0 g1
    simp only [pmY, pmI, pgAt, prev, thisP, nextP, errNot, itmsTo_0, List.length_nil, r13, r14, pk, List.foldr, List.cons_append, List.nil_append, List.append_assoc, List.map, hold_cons_iff, hold_nil_iff, dB_le, dB_lt, dB_ieq, dB_seq, dS_sl, dI_il, dI_add, dI_sub, dI_tlen, d_cell, d_v, d_uf, d_cel, d_il, d_add, d_sub, LoopY.env, hu', UF_22, UF_23, ar_0, ar_1, T_t, if_true, if_false, Nat.reduceEqDiff, I_i, Int.toNat_natCast, Int.toNat_zero, toNat_one, toNat_succ, prevE, decide_eq_true_eq, decide_eq_false_iff_not, beq_eq_false_iff_ne, ne_eq, and_true, true_and, nosL]
    omega
  · have hu' := he.uf.trans hu
    obtain ⟨h1, h7, h3, h4, h5, h6⟩ := pmY_ent hu' h
    have g0 := good_pg h7 i
    have g1 := good_pg h7 (i + 1)
    have gl := itmsTo_len h7 i
    have hle := @end_le (e.v 7045)
    have hp := (end_lt (pg := e.v 7045) (i := i - 1) (by omega)).2.2
    simp only [nmsAt, erAt, frAt] at g0 g1 hp
    simp only [pmY, pmI, pgAt, prev, thisP, nextP, errNot, r13, r14, pk, List.foldr, List.cons_append, List.nil_append, List.append_assoc, List.map, hold_cons_iff, hold_nil_iff, dB_le, dB_lt, dB_ieq, dB_seq, dS_sl, dI_il, dI_add, dI_sub, dI_tlen, d_cell, d_v, d_uf, d_cel, d_il, d_add, d_sub, LoopY.env, hu', UF_22, UF_23, ar_0, ar_1, T_t, if_true, if_false, Nat.reduceEqDiff, I_i, Int.toNat_natCast, Int.toNat_zero, toNat_one, toNat_succ, prevE, decide_eq_true_eq, decide_eq_false_iff_not, beq_eq_false_iff_ne, ne_eq, and_true, true_and, nosL]
    refine ⟨by omega, hp, ?_⟩
    omega
  · have hu' := he.uf.trans hu
    simp only [pmY, pmN, pmA, pmL, r13, pk, List.foldr, dB_lt, d_uf, d_cel, d_v, d_il, LoopY.env, hu', UF_20, ar_4, if_true, if_false, Nat.reduceEqDiff, I_i, decide_eq_true_eq] at hl
    omega
theorem spY_ent {e : Env} (hu : e.uf = UF) (h : (spY.ent 0).Hold e) : ((e.v 7045).T.length : Int) ≤ 60 ∧ anyB (B7 (e.v 7045)) (e.v 7045).T.length = false := by
  simp only [spY, pk, List.foldr, hold_cons_iff, hold_nil_iff, dB_le, dI_il, dI_tlen, d_v, d_uf, d_cel, hu, UF_7, ar_0, B_b, decide_eq_true_eq, and_true] at h
  exact h
theorem spY_ok (hu : o.uf = UF) : LpOk Try.prog o 15 8 spY.lpP := by
  refine two_ok plain mixed (D := spY) (by kernel_rfl) (fun e => endN (e.v 7045)) spY_obl0 spY_obl1 (fun m h => m_of h) (fun m h => m_of h) (fun n => by rcases n with _ | _ | _ | _ | _ | _ | _ | _ | n <;> rfl) (fun _ _ _ _ _ _ _ => extOk_none)
    (fun e he h u => ?_) (fun e he h i u h0 hi => ?_) (fun e he h u => ?_) (fun e he h i u h0 hi => ?_) (fun e he h i u hi hl => ?_)
  · exact spY_all0 (he.uf.trans hu) (spY_ent (he.uf.trans hu) h).2
  · exact spY_all1 (he.uf.trans hu) (spY_ent (he.uf.trans hu) h).2 hi h0
  · have hu' := he.uf.trans hu
    obtain ⟨h1, h7⟩ := spY_ent hu' h
    have g0 := good_pg h7 0
    simp only [nmsAt, erAt] at g0
    simp only [spY, pgAt, spP, nmsTo_0, List.length_nil, r13, r14, pk, List.foldr, List.cons_append, List.nil_append, List.append_assoc, List.map, hold_cons_iff, hold_nil_iff, dB_le, dB_lt, dB_ieq, dB_seq, dS_sl, dI_il, dI_add, dI_sub, dI_tlen, d_cell, d_v, d_uf, d_cel, d_il, d_add, d_sub, LoopY.env, hu', UF_22, UF_23, ar_0, ar_1, T_t, if_true, if_false, Nat.reduceEqDiff, I_i, Int.toNat_natCast, Int.toNat_zero, toNat_one, toNat_succ, prevE, decide_eq_true_eq, decide_eq_false_iff_not, beq_eq_false_iff_ne, ne_eq, and_true, true_and, nosL]
    omega
  · have hu' := he.uf.trans hu
    obtain ⟨h1, h7⟩ := spY_ent hu' h
    have g0 := good_pg h7 i
    have gl := nmsTo_len h7 i
    have hle := @end_le (e.v 7045)
    have hp := (end_lt (pg := e.v 7045) (i := i - 1) (by omega)).2.2
    simp only [nmsAt, erAt, frAt] at g0 hp
    simp only [spY, pgAt, spP, r13, r14, pk, List.foldr, List.cons_append, List.nil_append, List.append_assoc, List.map, hold_cons_iff, hold_nil_iff, dB_le, dB_lt, dB_ieq, dB_seq, dS_sl, dI_il, dI_add, dI_sub, dI_tlen, d_cell, d_v, d_uf, d_cel, d_il, d_add, d_sub, LoopY.env, hu', UF_22, UF_23, ar_0, ar_1, T_t, if_true, if_false, Nat.reduceEqDiff, I_i, Int.toNat_natCast, Int.toNat_zero, toNat_one, toNat_succ, prevE, decide_eq_true_eq, decide_eq_false_iff_not, beq_eq_false_iff_ne, ne_eq, and_true, true_and, nosL]
    refine ⟨by omega, hp, ?_⟩
    omega
  · have hu' := he.uf.trans hu
    simp only [spY, pmN, pmA, pmL, r14, pk, List.foldr, dB_lt, d_uf, d_cel, d_v, d_il, LoopY.env, hu', UF_20, ar_4, if_true, if_false, Nat.reduceEqDiff, I_i, decide_eq_true_eq] at hl
    omega
theorem csY_ok (hu : o.uf = UF) : LpOk Try.prog o 13 4 csY.lpP := by
  have ent : ∀ {e : Env}, (csY.ent 0).Hold e → ((e.v 7060).T.length : Int) ≤ 9223372036854775807 := fun {e} h => of_decide_eq_true (h _ true (List.mem_cons_self ..))
  refine one_ok plain mixed (D := csY) (by kernel_rfl) (fun e => (e.v 7060).T.length) csY_obl (fun m h => m_of h) (fun m h => m_of h) (fun _ => rfl) (fun _ _ _ _ _ _ _ => extOk_none)
    (fun e he h i u hi => csY_all hi) (fun e he h i u hi => ?_) (fun e he h i u hi hl => ?_)
  · have := ent h
    simp only [csY, r16, hold_cons_iff, hold_nil_iff, dB_le, dI_il, dI_tlen, d_v, LoopY.env, if_true, if_false, Nat.reduceEqDiff, I_i, decide_eq_true_eq, and_true]
    omega
  · simp only [csY, r16, dB_lt, dI_tlen, d_v, LoopY.env, if_true, if_false, Nat.reduceEqDiff, I_i, decide_eq_true_eq] at hl
    omega
theorem txY_ent {e : Env} (h : (txY.ent 0).Hold e) : (e.v 7050).T.length = (e.v 7051).T.length ∧ ((e.v 7050).T.length : Int) ≤ 9223372036854775807 := by
  simp only [txY, txG, txE, guardT, hold_cons_iff, hold_nil_iff, dB_le, dB_ieq, dI_il, dI_tlen, d_v, decide_eq_true_eq, and_true] at h
  omega
theorem txY_ok (hu : o.uf = UF) : LpOk Try.prog o 18 4 txY.lpP := by
  refine one_ok plain mixed (D := txY) (by kernel_rfl) (fun e => stop (Btx (e.v 7050) (e.v 7051)) (e.v 7050).T.length) txY_obl (fun m h => m_of h) (fun m h => m_of h) (fun _ => rfl) (fun _ _ _ _ _ _ _ => extOk_none)
    (fun e he h i u hi => txY_all (he.uf.trans hu) hi (txY_ent h).2 (txY_ent h).1) (fun e he h i u hi => ?_) (fun e he h i u hi hl => ?_)
  · obtain ⟨h1, h2⟩ := txY_ent h
    have := @stop_le (Btx (e.v 7050) (e.v 7051)) (e.v 7050).T.length
    simp only [txY, txG, txE, guardT, hold_cons_iff, hold_nil_iff, dB_le, dB_ieq, dI_il, dI_tlen, d_v, LoopY.env, if_true, if_false, Nat.reduceEqDiff, I_i, decide_eq_true_eq, and_true]
    omega
  · have hu' := he.uf.trans hu
    simp only [txY, txG, guardT, pk, List.foldr, dB_lt, d_uf, d_cel, d_v, d_il, LoopY.env, hu', UF_41, ar_0, ar_1, if_true, if_false, Nat.reduceEqDiff, I_i, decide_eq_true_eq] at hl
    omega
theorem c5_ok (hu : o.uf = UF) (A : Anchor) : ExtOk Try.prog o A ((c5.xf litF).toExt Try.prog) := by
  refine Ctr.okf (by kernel_rfl) (fun x hx => ?_) (fun x hx => ?_) litF A
  · rcases List.mem_cons.1 hx with rfl | hx
    · exact shut_ok plain mixed live_says
    · cases hx
  have hx : x ∈ [(13, 4, csY.lpP), (46, 7, pmY.lpP), (75, 2, gaY.lpP), (96, 2, gbY.lpP), (15, 8, spY.lpP), (18, 4, txY.lpP), (16, 4, fits13.lpP), (10, 4, fits27.lpP), (11, 4, good.lpP)] := hx
  simp only [List.mem_cons, List.not_mem_nil, or_false] at hx
  rcases hx with rfl | rfl | rfl | rfl | rfl | rfl | rfl | rfl | rfl
  · exact csY_ok hu
  · exact pmY_ok hu
  · exact gaY_ok hu
  · exact gbY_ok hu
  · exact spY_ok hu
  · exact txY_ok hu
  · exact fits13_ok hu
  · exact fits27_ok hu
  · exact good_ok hu
end
end Go.Proofs.Ytgopjdknmjjheaa.sxPages
