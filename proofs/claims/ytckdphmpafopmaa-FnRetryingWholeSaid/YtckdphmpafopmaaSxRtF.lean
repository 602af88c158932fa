/-
  THE LAWS FnRetrying*: its loops' contracts.
-/
import Derived.Test.YtckdphmpafopmaaSxRtD
namespace Go.Proofs.Ytckdphmpafopmaa.sxRetrying
open Go.Sx Go.RowKit
set_option linter.unusedVariables false
set_option linter.unusedSimpArgs false
set_option maxRecDepth 100000

theorem plain : Plain Try.prog := plain_of (by kernel_rfl)
theorem mixed : Try.prog.follows .mixedOrders = true := by kernel_rfl
theorem fits6_obl : fits6.obl Try.prog 0 = some fits6L0 := by kernel_rfl
theorem fits31_obl : fits31.obl Try.prog 0 = some fits31L0 := by kernel_rfl
theorem dup_obl : dup.obl Try.prog 0 = some dupL0 := by kernel_rfl
theorem pairs_obl : pairs.obl Try.prog 0 = some pairsL0 := by kernel_rfl
theorem steps_obl : steps.obl Try.prog 0 = some stepsL0 := by kernel_rfl
theorem objIn_obl0 : objIn.obl Try.prog 0 = some objInL0 := by kernel_rfl
theorem objIn_obl1 : objIn.obl Try.prog 1 = some objInL1 := by kernel_rfl
theorem objOut_obl0 : objOut.obl Try.prog 0 = some objOutL0 := by kernel_rfl
theorem objOut_obl1 : objOut.obl Try.prog 1 = some objOutL1 := by kernel_rfl
theorem im_obl0 : im.obl Try.prog 0 = some imL0 := by kernel_rfl
theorem im_obl1 : im.obl Try.prog 1 = some imL1 := by kernel_rfl
theorem im_obl2 : im.obl Try.prog 2 = some imL2 := by kernel_rfl
theorem im_obl3 : im.obl Try.prog 3 = some imL3 := by kernel_rfl
theorem im_obl4 : im.obl Try.prog 4 = some imL4 := by kernel_rfl
theorem im_obl5 : im.obl Try.prog 5 = some imL5 := by kernel_rfl
theorem im_obl6 : im.obl Try.prog 6 = some imL6 := by kernel_rfl
theorem im_obl7 : im.obl Try.prog 7 = some imL7 := by kernel_rfl
theorem im_obl8 : im.obl Try.prog 8 = some imL8 := by kernel_rfl
theorem im_obl9 : im.obl Try.prog 9 = some imL9 := by kernel_rfl
def imL : Nat → List (Facts × List Ob)
  | 0 => imL0
  | 1 => imL1
  | 2 => imL2
  | 3 => imL3
  | 4 => imL4
  | 5 => imL5
  | 6 => imL6
  | 7 => imL7
  | 8 => imL8
  | _ => imL9
theorem m_of {m : Nat} {k : Nat} (h : Nat.beq m k = true) : m = k := Nat.eq_of_beq_eq_true h

section
variable {o : Env}
theorem fits6_ok (hu : o.uf = UF) : LpOk Try.prog o 35 4 fits6.lpP :=
  guard_ok plain mixed (D := fits6) rfl (by kernel_rfl) (by decide) rfl fits6_obl (B := fun e => B6 (e.v 7000)) (fun _ _ _ => rfl) (fun e he => by rw [he.uf, hu]; rfl) (fun _ _ _ _ _ => extOk_none) (fun e i u he hi hn => fits6_all (he.uf.trans hu) hi hn)
theorem c1_ok (hu : o.uf = UF) (A : Anchor) : ExtOk Try.prog o A (c1.x.toExt Try.prog) := by
  refine Ctr.ok (by kernel_rfl) (fun x hx => by cases hx) (fun x hx => ?_) A
  rcases List.mem_cons.1 hx with rfl | hx
  · exact fits6_ok hu
  · cases hx
theorem fits31_ok (hu : o.uf = UF) : LpOk Try.prog o 6 4 fits31.lpP :=
  guard_ok plain mixed (D := fits31) rfl (by kernel_rfl) (by decide) rfl fits31_obl (B := fun e => B31 (e.v 7001)) (fun _ _ _ => rfl) (fun e he => by rw [he.uf, hu]; rfl) (fun e i u A he => c1_ok (o := fits31.env e u i) (he.uf.trans hu) A) (fun e i u he hi hn => fits31_all (he.uf.trans hu) hi hn)
theorem dup_ok (hu : o.uf = UF) : LpOk Try.prog o 22 7 dup.lpP :=
  guard_ok plain mixed (D := dup) rfl (by kernel_rfl) (by decide) rfl dup_obl (B := fun e => Bdup (e.v 7002) (e.v 7003)) (fun _ _ _ => rfl) (fun e he => by rw [he.uf, hu]; rfl) (fun _ _ _ _ _ => extOk_none) (fun e i u he hi hn => dup_all (he.uf.trans hu) hi hn)
theorem c2_ok (hu : o.uf = UF) (A : Anchor) : ExtOk Try.prog o A (c2.x.toExt Try.prog) := by
  refine Ctr.ok (by kernel_rfl) (fun x hx => by cases hx) (fun x hx => ?_) A
  rcases List.mem_cons.1 hx with rfl | hx
  · exact dup_ok hu
  · cases hx
theorem pairs_ok (hu : o.uf = UF) : LpOk Try.prog o 22 2 pairs.lpP :=
  guard_ok plain mixed (D := pairs) rfl (by kernel_rfl) (by decide) rfl pairs_obl (B := fun e => Bpairs (e.v 7005)) (fun _ _ _ => rfl) (fun e he => by rw [he.uf, hu]; rfl) (fun e i u A he => c2_ok (o := pairs.env e u i) (he.uf.trans hu) A) (fun e i u he hi hn => pairs_all (he.uf.trans hu) hi hn)
theorem c3_ok (hu : o.uf = UF) (A : Anchor) : ExtOk Try.prog o A (c3.x.toExt Try.prog) := by
  refine Ctr.ok (by kernel_rfl) (fun x hx => by cases hx) (fun x hx => ?_) A
  rcases List.mem_cons.1 hx with rfl | hx
  · exact pairs_ok hu
  · rcases List.mem_cons.1 hx with rfl | hx
    · exact dup_ok hu
    · cases hx
theorem steps_ok (hu : o.uf = UF) : LpOk Try.prog o 7 2 steps.lpP :=
  guard_ok plain mixed (D := steps) rfl (by kernel_rfl) (by decide) rfl steps_obl (B := fun e => B9 (e.v 7006)) (fun _ _ _ => rfl) (fun e he => by rw [he.uf, hu]; rfl) (fun e i u A he => c3_ok (o := steps.env e u i) (he.uf.trans hu) A) (fun e i u he hi hn => steps_all (he.uf.trans hu) hi hn)

theorem objIn_ent {e : Env} (h : (objIn.ent 0).Hold e) : ((e.v 7020).T.length : Int) ≤ 2147483647 := of_decide_eq_true (h _ true (List.mem_cons_self ..))
theorem objOut_ent {e : Env} (h : (objOut.ent 0).Hold e) : ((e.v 7040).T.length : Int) ≤ 2147483647 := of_decide_eq_true (h _ true (List.mem_cons_self ..))
theorem objIn_ok : LpOk Try.prog o 29 3 objIn.lpP := by
  refine two_ok plain mixed (D := objIn) (by kernel_rfl) (fun e => (e.v 7020).T.length) objIn_obl0 objIn_obl1 (fun m h => m_of h) (fun m h => m_of h) (fun _ => rfl) (fun _ _ _ _ _ _ _ => extOk_none)
    (fun e he h u => objIn_all0 rfl (Nat.zero_le _) (objIn_ent h)) (fun e he h i u h0 hi => objIn_all1 hi (objIn_ent h)) (fun e he h u => ?_) (fun e he h i u h0 hi => ?_) (fun e he h i u hi hl => ?_)
  · have := objIn_ent h
    simp only [objIn, r10, List.cons_append, List.nil_append, hold_cons_iff, hold_nil_iff, dB_le, dB_ieq, dB_lt, dI_il, dI_tlen, d_v, LoopY.env, if_true, if_false, Nat.reduceEqDiff, I_i, decide_eq_true_eq, and_true]
    omega
  · have := objIn_ent h
    simp only [objIn, r10, List.cons_append, List.nil_append, hold_cons_iff, hold_nil_iff, dB_le, dB_ieq, dB_lt, dI_il, dI_tlen, d_v, LoopY.env, if_true, if_false, Nat.reduceEqDiff, I_i, decide_eq_true_eq, and_true]
    omega
  · simp only [objIn, r10, dB_lt, dI_tlen, d_v, LoopY.env, if_true, if_false, Nat.reduceEqDiff, I_i, decide_eq_true_eq] at hl
    omega
theorem objOut_ok : LpOk Try.prog o 41 9 objOut.lpP := by
  refine two_ok plain mixed (D := objOut) (by kernel_rfl) (fun e => (e.v 7040).T.length) objOut_obl0 objOut_obl1 (fun m h => m_of h) (fun m h => m_of h) (fun _ => rfl) (fun _ _ _ _ _ _ _ => extOk_none)
    (fun e he h u => objOut_all0 rfl (Nat.zero_le _) (objOut_ent h)) (fun e he h i u h0 hi => objOut_all1 hi (objOut_ent h)) (fun e he h u => ?_) (fun e he h i u h0 hi => ?_) (fun e he h i u hi hl => ?_)
  · have := objOut_ent h
    simp only [objOut, r12, List.cons_append, List.nil_append, hold_cons_iff, hold_nil_iff, dB_le, dB_ieq, dB_lt, dI_il, dI_tlen, d_v, LoopY.env, if_true, if_false, Nat.reduceEqDiff, I_i, decide_eq_true_eq, and_true]
    omega
  · have := objOut_ent h
    simp only [objOut, r12, List.cons_append, List.nil_append, hold_cons_iff, hold_nil_iff, dB_le, dB_ieq, dB_lt, dI_il, dI_tlen, d_v, LoopY.env, if_true, if_false, Nat.reduceEqDiff, I_i, decide_eq_true_eq, and_true]
    omega
  · simp only [objOut, r12, dB_lt, dI_tlen, d_v, LoopY.env, if_true, if_false, Nat.reduceEqDiff, I_i, decide_eq_true_eq] at hl
    omega

/-- The kind of an operation, or of none. -/
theorem kind_of {d : Dv} (hg : ∀ j, j < d.T.length → okStep (row d j) = true) (i : Nat) : 0 ≤ (cc (row d i) 0).I ∧ (cc (row d i) 0).I ≤ 5 := by
  by_cases h : i < d.T.length
  · have := good_of (hg i h)
    omega
  · have : row d i = [] := by unfold row; rw [List.getElem?_eq_none (by omega)]; rfl
    rw [this]
    exact ⟨by decide, by decide⟩
theorem im_ent {e : Env} (hu : e.uf = UF) (h : (im.ent 0).Hold e) : ((e.v 7030).T.length : Int) ≤ 1000 ∧ ∀ j, j < (e.v 7030).T.length → okStep (row (e.v 7030) j) = true := by
  refine ⟨of_decide_eq_true (h _ true (List.mem_cons_self ..)), fun j hj => good_steps ?_ hj⟩
  have : (e.uf 9 ((pk [.v 7030]).den e)).B = false := h _ false (List.mem_cons_of_mem _ (List.mem_cons_self ..))
  rw [hu] at this
  exact this
theorem cI_ok (A : Anchor) : ExtOk Try.prog o A (im.X.toExt Try.prog) := by
  refine Ctr.ok (c := Ctr.mk [] [(29, 3, objIn.lpP), (41, 9, objOut.lpP)]) (by kernel_rfl) (fun x hx => by cases hx) (fun x hx => ?_) A
  rcases List.mem_cons.1 hx with rfl | hx
  · exact objIn_ok
  · rcases List.mem_cons.1 hx with rfl | hx
    · exact objOut_ok
    · cases hx
theorem im_ok (hu : o.uf = UF) : LpOk Try.prog o 8 7 im.lpP := by
  have bad : ∀ {e : Env}, e.uf = UF → (im.ent 0).Hold e → anyB (B9 (e.v 7030)) (e.v 7030).T.length = false := fun {e} hu h => by
    have : (e.uf 9 ((pk [.v 7030]).den e)).B = false := h _ false (List.mem_cons_of_mem _ (List.mem_cons_self ..))
    rw [hu] at this
    exact this
  have hk0 : ∀ {e : Env} {c i : Nat} {u : Nat → Value}, c < 5 → (kindF c).Hold (im.env e u i) → (cc (row (e.v 7030) i) 0).I = c + 1 ∧ c < 4 ∨ c = 4 ∧ ((cc (row (e.v 7030) i) 0).I ≠ 1 ∧ (cc (row (e.v 7030) i) 0).I ≠ 2 ∧ (cc (row (e.v 7030) i) 0).I ≠ 3 ∧ (cc (row (e.v 7030) i) 0).I ≠ 4) := by
    intro e c i u hc h
    rcases c with _ | _ | _ | _ | _ | c
    all_goals try omega
    all_goals simp only [kindF, List.map, r11, hold_cons_iff, hold_nil_iff, dB_ieq, d_cell, d_v, dI_il, LoopY.env, r_im, if_true, if_false, Nat.reduceEqDiff, I_i, Int.toNat_natCast, decide_eq_true_eq, decide_eq_false_iff_not, and_true] at h
    all_goals first | (left; constructor <;> omega) | (right; exact ⟨rfl, h⟩)
  refine cases_ok plain mixed (D := im) (by kernel_rfl) (L := imL) (fun e => (e.v 7030).T.length) 5 kindF (fun μ h => ?_) (fun μ h => ?_) (fun m h => m_of h) (fun m h => m_of h) (fun _ => rfl) (fun e he h i u hi => ?_) (fun _ _ _ _ _ _ _ => cI_ok _)
    (fun e he h c hc u hcc => ?_) (fun e he h c hc i u h0 hi hcc => ?_) (fun e he h c hc u hcc => ?_) (fun e he h c hc i u h0 hi hcc => ?_) (fun e he h i u hi hl => ?_)
  · have : μ = 0 ∨ μ = 1 ∨ μ = 2 ∨ μ = 3 ∨ μ = 4 ∨ μ = 5 ∨ μ = 6 ∨ μ = 7 ∨ μ = 8 ∨ μ = 9 := by omega
    rcases this with rfl | rfl | rfl | rfl | rfl | rfl | rfl | rfl | rfl | rfl
    · exact im_obl0
    · exact im_obl1
    · exact im_obl2
    · exact im_obl3
    · exact im_obl4
    · exact im_obl5
    · exact im_obl6
    · exact im_obl7
    · exact im_obl8
    · exact im_obl9
  · have e : μ % 2 % 2 = μ % 2 := by omega
    exact ⟨by simp only [im, e], by simp only [im, e], rfl⟩
  · have hk := kind_of (im_ent (he.uf.trans hu) h).2 i
    have h5 : (cc (row (e.v 7030) i) 0).I = 1 ∨ (cc (row (e.v 7030) i) 0).I = 2 ∨ (cc (row (e.v 7030) i) 0).I = 3 ∨ (cc (row (e.v 7030) i) 0).I = 4 ∨ ((cc (row (e.v 7030) i) 0).I ≠ 1 ∧ (cc (row (e.v 7030) i) 0).I ≠ 2 ∧ (cc (row (e.v 7030) i) 0).I ≠ 3 ∧ (cc (row (e.v 7030) i) 0).I ≠ 4) := by omega
    rcases h5 with h5 | h5 | h5 | h5 | h5
    · refine ⟨0, by decide, ?_⟩
      simp only [kindF, r11, hold_cons_iff, hold_nil_iff, dB_ieq, d_cell, d_v, dI_il, LoopY.env, r_im, if_true, if_false, Nat.reduceEqDiff, I_i, Int.toNat_natCast, decide_eq_true_eq, and_true]; omega
    · refine ⟨1, by decide, ?_⟩
      simp only [kindF, r11, hold_cons_iff, hold_nil_iff, dB_ieq, d_cell, d_v, dI_il, LoopY.env, r_im, if_true, if_false, Nat.reduceEqDiff, I_i, Int.toNat_natCast, decide_eq_true_eq, and_true]; omega
    · refine ⟨2, by decide, ?_⟩
      simp only [kindF, r11, hold_cons_iff, hold_nil_iff, dB_ieq, d_cell, d_v, dI_il, LoopY.env, r_im, if_true, if_false, Nat.reduceEqDiff, I_i, Int.toNat_natCast, decide_eq_true_eq, and_true]; omega
    · refine ⟨3, by decide, ?_⟩
      simp only [kindF, r11, hold_cons_iff, hold_nil_iff, dB_ieq, d_cell, d_v, dI_il, LoopY.env, r_im, if_true, if_false, Nat.reduceEqDiff, I_i, Int.toNat_natCast, decide_eq_true_eq, and_true]; omega
    · refine ⟨4, by decide, ?_⟩
      simp only [kindF, List.map, r11, hold_cons_iff, hold_nil_iff, dB_ieq, d_cell, d_v, dI_il, LoopY.env, r_im, if_true, if_false, Nat.reduceEqDiff, I_i, Int.toNat_natCast, decide_eq_false_iff_not, and_true]; exact h5
  · have hu' := he.uf.trans hu
    obtain ⟨h1, h2⟩ := im_ent hu' h
    rcases c with _ | _ | _ | _ | _ | c
    · exact im_all0 hu' (by have := hk0 hc hcc; omega) (Nat.zero_le _) h1 h2
    · exact im_all2 hu' (by have := hk0 hc hcc; omega) (Nat.zero_le _) h1 h2
    · exact im_all4 hu' (by have := hk0 hc hcc; omega) (Nat.zero_le _) h1 h2
    · exact im_all6 hu' (by have := hk0 hc hcc; omega) (Nat.zero_le _) h1 h2
    · exact im_all8 hu' (by have := hk0 hc hcc; omega) (Nat.zero_le _) h1 h2
    · omega
  · have hu' := he.uf.trans hu
    obtain ⟨h1, h2⟩ := im_ent hu' h
    rcases c with _ | _ | _ | _ | _ | c
    · exact im_all1 hu' (by have := hk0 hc hcc; omega) hi h1 h2
    · exact im_all3 hu' (by have := hk0 hc hcc; omega) hi h1 h2
    · exact im_all5 hu' (by have := hk0 hc hcc; omega) hi h1 h2
    · exact im_all7 hu' (by have := hk0 hc hcc; omega) hi h1 h2
    · exact im_all9 hu' (by have := hk0 hc hcc; omega) hi h1 h2
    · omega
  · have hu' := he.uf.trans hu
    obtain ⟨h1, h2⟩ := im_ent hu' h
    have hk := kind_of h2 0
    have hb := bad hu' h
    have e1 : 2 * c % 2 = 0 := by omega
    have e2 : 2 * c / 2 = c := by omega
    show Facts.Hold _ (_ ++ kindF (2 * c / 2))
    rw [e2, e1]
    refine hold_append ?_ hcc
    simp only [im, imA, r11, pk, List.foldr, List.cons_append, List.nil_append, hold_cons_iff, hold_nil_iff, dB_le, dB_ieq, dB_lt, dI_il, dI_tlen, d_v, d_uf, d_cel, d_cell, LoopY.env, hu', UF_9, ar_0, hb, B_b, if_true, if_false, Nat.reduceEqDiff, I_i, Int.toNat_natCast, Int.toNat_zero, decide_eq_true_eq, and_true, true_and]
    omega
  · have hu' := he.uf.trans hu
    obtain ⟨h1, h2⟩ := im_ent hu' h
    have hk := kind_of h2 i
    have hb := bad hu' h
    have e1 : (2 * c + 1) % 2 = 1 := by omega
    have e2 : (2 * c + 1) / 2 = c := by omega
    show Facts.Hold _ (_ ++ kindF ((2 * c + 1) / 2))
    rw [e2, e1]
    refine hold_append ?_ hcc
    simp only [im, imA, r11, pk, List.foldr, List.cons_append, List.nil_append, hold_cons_iff, hold_nil_iff, dB_le, dB_ieq, dB_lt, dI_il, dI_tlen, d_v, d_uf, d_cel, d_cell, LoopY.env, hu', UF_9, ar_0, hb, B_b, if_true, if_false, Nat.reduceEqDiff, I_i, Int.toNat_natCast, decide_eq_true_eq, and_true, true_and]
    omega
  · simp only [im, r11, dB_lt, dI_tlen, d_v, LoopY.env, if_true, if_false, Nat.reduceEqDiff, I_i, decide_eq_true_eq] at hl
    omega
end
end Go.Proofs.Ytckdphmpafopmaa.sxRetrying
