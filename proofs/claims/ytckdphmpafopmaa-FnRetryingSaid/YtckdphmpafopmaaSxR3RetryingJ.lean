/-
  THE LAW FnRetrying: its further loops' contracts.
-/
import Derived.Test.YtckdphmpafopmaaSxR3RetryingI
import Derived.Test.YtckdphmpafopmaaSxR3RetryingF
namespace Go.Proofs.Ytckdphmpafopmaa.sxRetrying
open Go.Sx Go.RowKit
set_option linter.unusedVariables false
set_option linter.unusedSimpArgs false
set_option maxRecDepth 100000

theorem ixY_obl : ixY.obl Try.prog 0 = some ixYL0 := by kernel_rfl
theorem slY_obl : slY.obl Try.prog 0 = some slYL0 := by kernel_rfl
theorem rsY_obl : rsY.obl Try.prog 0 = some rsYL0 := by kernel_rfl
theorem sp_obl0 : sp.obl Try.prog 0 = some spL0 := by kernel_rfl
theorem sp_obl1 : sp.obl Try.prog 1 = some spL1 := by kernel_rfl
theorem lw_obl : lw.obl Try.prog 0 = some lwL0 := by kernel_rfl
section
variable {o : Env}
theorem ixY_ok (hu : o.uf = UF) : LpOk Try.prog o 43 2 ixY.lpP := by
  have ent : ∀ {e : Env}, (ixY.ent 0).Hold e → ((e.v 7060).T.length : Int) ≤ 9223372036854775807 := fun {e} h => of_decide_eq_true (h _ true (List.mem_cons_self ..))
  refine one_ok plain mixed (D := ixY) (by kernel_rfl) (fun e => stop (Bix (e.v 7060) (e.v 7061) (e.v 7062)) (e.v 7060).T.length) ixY_obl (fun m h => m_of h) (fun m h => m_of h) (fun _ => rfl) (fun _ _ _ _ _ _ _ => extOk_none)
    (fun e he h i u hi => ixY_all (he.uf.trans hu) hi (ent h)) (fun e he h i u hi => ?_) (fun e he h i u hi hl => ?_)
  · have := ent h
    have := @stop_le (Bix (e.v 7060) (e.v 7061) (e.v 7062)) (e.v 7060).T.length
    simp only [ixY, r14, hold_cons_iff, hold_nil_iff, dB_le, dI_il, dI_tlen, d_v, LoopY.env, if_true, if_false, Nat.reduceEqDiff, I_i, decide_eq_true_eq, and_true]
    omega
  · have hu' := he.uf.trans hu
    simp only [ixY, ixA, r14, pk, List.foldr, dB_lt, d_uf, d_cel, d_v, LoopY.env, hu', UF_61, ar_0, ar_1, ar_2, if_true, if_false, Nat.reduceEqDiff, I_i, decide_eq_true_eq] at hl
    omega
theorem c7_ok (hu : o.uf = UF) (A : Anchor) : ExtOk Try.prog o A (c7.x.toExt Try.prog) := by
  refine Ctr.ok (by kernel_rfl) (fun x hx => by cases hx) (fun x hx => ?_) A
  rcases List.mem_cons.1 hx with rfl | hx
  · exact ixY_ok hu
  · cases hx
theorem slY_ok (hu : o.uf = UF) : LpOk Try.prog o 23 4 slY.lpP :=
  guard_ok plain mixed (D := slY) rfl (by kernel_rfl) (by decide) rfl slY_obl (B := fun e => Bsl (e.v 7065)) (fun _ _ _ => rfl) (fun e he => by rw [he.uf, hu]; rfl) (fun e i u A he => c7_ok (o := slY.env e u i) (he.uf.trans hu) A) (fun e i u he hi hn => slY_all (he.uf.trans hu) hi hn)
theorem c8_ok (hu : o.uf = UF) (A : Anchor) : ExtOk Try.prog o A (c8.x.toExt Try.prog) := by
  refine Ctr.ok (by kernel_rfl) (fun x hx => by cases hx) (fun x hx => ?_) A
  rcases List.mem_cons.1 hx with rfl | hx
  · exact slY_ok hu
  · rcases List.mem_cons.1 hx with rfl | hx
    · exact ixY_ok hu
    · cases hx
theorem rsY_ent {e : Env} (hu : e.uf = UF) (h : (rsY.ent 0).Hold e) : ((e.v 7070).T.length : Int) ≤ 9223372036854775807 ∧ okSent (e.v 7070) = true := by
  refine ⟨of_decide_eq_true (h _ true (List.mem_cons_self ..)), ?_⟩
  have : (e.uf 64 ((pk [.v 7070]).den e)).B = true := h _ true (List.mem_cons_of_mem _ (List.mem_cons_self ..))
  rw [hu] at this
  exact this
theorem rsY_ok (hu : o.uf = UF) : LpOk Try.prog o 11 4 rsY.lpP := by
  refine one_ok plain mixed (D := rsY) (by kernel_rfl) (fun e => (e.v 7070).T.length) rsY_obl (fun m h => m_of h) (fun m h => m_of h) (fun _ => rfl) (fun e i u A he _ _ => c8_ok (o := rsY.env e u i) (he.uf.trans hu) A)
    (fun e he h i u hi => rsY_all (he.uf.trans hu) hi (rsY_ent (he.uf.trans hu) h).1 (rsY_ent (he.uf.trans hu) h).2) (fun e he h i u hi => ?_) (fun e he h i u hi hl => ?_)
  · have hu' := he.uf.trans hu
    obtain ⟨h1, h2⟩ := rsY_ent hu' h
    simp only [rsY, r16, pk, List.foldr, hold_cons_iff, hold_nil_iff, dB_le, dI_il, dI_tlen, d_v, d_uf, d_cel, LoopY.env, hu', UF_64, ar_0, h2, B_b, if_true, if_false, Nat.reduceEqDiff, I_i, decide_eq_true_eq, and_true]
    omega
  · simp only [rsY, r16, dB_lt, dI_tlen, d_v, LoopY.env, if_true, if_false, Nat.reduceEqDiff, I_i, decide_eq_true_eq] at hl
    omega
theorem sp_ent {e : Env} (hu : e.uf = UF) (h : (sp.ent 0).Hold e) : ((e.v 7075).T.length : Int) ≤ 80 ∧ anyB (B9 (e.v 7075)) (e.v 7075).T.length = false ∧ plainTy (e.v 7075) = true := by
  have h1 : (e.uf 9 ((pk [.v 7075]).den e)).B = false := h _ false (List.mem_cons_of_mem _ (List.mem_cons_self ..))
  have h2 : (e.uf 66 ((pk [.v 7075]).den e)).B = true := h _ true (List.mem_cons_of_mem _ (List.mem_cons_of_mem _ (List.mem_cons_self ..)))
  rw [hu] at h1 h2
  exact ⟨of_decide_eq_true (h _ true (List.mem_cons_self ..)), h1, h2⟩
theorem sp_ok (hu : o.uf = UF) : LpOk Try.prog o 10 6 sp.lpP := by
  refine two_ok plain mixed (D := sp) (by kernel_rfl) (fun e => (e.v 7075).T.length) sp_obl0 sp_obl1 (fun m h => m_of h) (fun m h => m_of h) (fun _ => rfl) (fun _ _ _ _ _ _ _ => extOk_none)
    (fun e he h u => sp_all0 (he.uf.trans hu) (Nat.zero_le _) (sp_ent (he.uf.trans hu) h).1 (fun j hj => good_steps (sp_ent (he.uf.trans hu) h).2.1 hj) (sp_ent (he.uf.trans hu) h).2.2) (fun e he h i u h0 hi => sp_all1 (he.uf.trans hu) hi (sp_ent (he.uf.trans hu) h).1 (fun j hj => good_steps (sp_ent (he.uf.trans hu) h).2.1 hj) (sp_ent (he.uf.trans hu) h).2.2) (fun e he h u => ?_) (fun e he h i u h0 hi => ?_) (fun e he h i u hi hl => ?_)
  · have hu' := he.uf.trans hu
    obtain ⟨h1, hb, hpl⟩ := sp_ent hu' h
    have hk := kind_of (fun j hj => good_steps hb hj) 0
    simp only [sp, spA, r17, pk, List.foldr, List.cons_append, List.nil_append, hold_cons_iff, hold_nil_iff, dB_le, dB_ieq, dB_lt, dI_il, dI_tlen, d_v, d_uf, d_cel, d_cell, LoopY.env, hu', UF_9, UF_66, ar_0, hb, hpl, B_b, if_true, if_false, Nat.reduceEqDiff, I_i, Int.toNat_natCast, Int.toNat_zero, decide_eq_true_eq, and_true, true_and]
    omega
  · have hu' := he.uf.trans hu
    obtain ⟨h1, hb, hpl⟩ := sp_ent hu' h
    have hk := kind_of (fun j hj => good_steps hb hj) i
    simp only [sp, spA, r17, pk, List.foldr, List.cons_append, List.nil_append, hold_cons_iff, hold_nil_iff, dB_le, dB_ieq, dB_lt, dI_il, dI_tlen, d_v, d_uf, d_cel, d_cell, LoopY.env, hu', UF_9, UF_66, ar_0, hb, hpl, B_b, if_true, if_false, Nat.reduceEqDiff, I_i, Int.toNat_natCast, decide_eq_true_eq, and_true, true_and]
    omega
  · simp only [sp, r17, dB_lt, dI_tlen, d_v, LoopY.env, if_true, if_false, Nat.reduceEqDiff, I_i, decide_eq_true_eq] at hl
    omega
theorem lw_ent {e : Env} (hu : e.uf = UF) (h : (lw.ent 0).Hold e) : ((e.v 7080).T.length : Int) ≤ 80 ∧ okAns (e.v 7080) = true := by
  refine ⟨of_decide_eq_true (h _ true (List.mem_cons_self ..)), ?_⟩
  have : (e.uf 65 ((pk [.v 7080]).den e)).B = true := h _ true (List.mem_cons_of_mem _ (List.mem_cons_self ..))
  rw [hu] at this
  exact this
theorem lw_ok (hu : o.uf = UF) : LpOk Try.prog o 4 10 lw.lpP := by
  refine one_ok plain mixed (D := lw) (by kernel_rfl) (fun e => (e.v 7080).T.length) lw_obl (fun m h => m_of h) (fun m h => m_of h) (fun _ => rfl) (fun e i u A he _ _ => ?_)
    (fun e he h i u hi => lw_all (he.uf.trans hu) hi (lw_ent (he.uf.trans hu) h).1 (lw_ent (he.uf.trans hu) h).2) (fun e he h i u hi => ?_) (fun e he h i u hi hl => ?_)
  · have hu' : (lw.env e u i).uf = UF := he.uf.trans hu
    refine Ctr.ok (c := Ctr.mk [] ((11, 4, rsY.lpP) :: c8.lps)) (by kernel_rfl) (fun x hx => by cases hx) (fun x hx => ?_) A
    have hx : x ∈ [(11, 4, rsY.lpP), (23, 4, slY.lpP), (43, 2, ixY.lpP)] := hx
    simp only [List.mem_cons, List.not_mem_nil, or_false] at hx
    rcases hx with rfl | rfl | rfl
    · exact rsY_ok hu'
    · exact slY_ok hu'
    · exact ixY_ok hu'
  · have hu' := he.uf.trans hu
    obtain ⟨h1, h2⟩ := lw_ent hu' h
    simp only [lw, r18, pk, List.foldr, hold_cons_iff, hold_nil_iff, dB_le, dI_il, dI_tlen, d_v, d_uf, d_cel, LoopY.env, hu', UF_65, ar_0, h2, B_b, if_true, if_false, Nat.reduceEqDiff, I_i, decide_eq_true_eq, and_true]
    omega
  · simp only [lw, r18, dB_lt, dI_tlen, d_v, LoopY.env, if_true, if_false, Nat.reduceEqDiff, I_i, decide_eq_true_eq] at hl
    omega
theorem c10_ok (hu : o.uf = UF) (A : Anchor) : ExtOk Try.prog o A (c10.x.toExt Try.prog) := by
  refine Ctr.ok (by kernel_rfl) (fun x hx => by cases hx) (fun x hx => ?_) A
  have hx : x ∈ [(4, 10, lw.lpP), (35, 4, fits6.lpP), (6, 4, fits31.lpP), (7, 2, steps.lpP), (22, 2, pairs.lpP), (22, 7, dup.lpP), (29, 3, objIn.lpP), (41, 9, objOut.lpP), (8, 7, im.lpP), (10, 6, sp.lpP), (11, 4, rsY.lpP), (23, 4, slY.lpP), (43, 2, ixY.lpP)] := hx
  simp only [List.mem_cons, List.not_mem_nil, or_false] at hx
  rcases hx with rfl | rfl | rfl | rfl | rfl | rfl | rfl | rfl | rfl | rfl | rfl | rfl | rfl
  · exact lw_ok hu
  · exact fits6_ok hu
  · exact fits31_ok hu
  · exact steps_ok hu
  · exact pairs_ok hu
  · exact dup_ok hu
  · exact objIn_ok
  · exact objOut_ok
  · exact im_ok hu
  · exact sp_ok hu
  · exact rsY_ok hu
  · exact slY_ok hu
  · exact ixY_ok hu
end
end Go.Proofs.Ytckdphmpafopmaa.sxRetrying
