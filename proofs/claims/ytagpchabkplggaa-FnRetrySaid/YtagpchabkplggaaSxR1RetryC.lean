/-
  THE LAW FnRetry (proved): over every history of errors, questions and times, the package's retry with a deadline answers as the model does. No conditions beside the law's own guards.
-/
import Derived.Test.YtagpchabkplggaaSxR1RetryB
namespace Go.Proofs.Ytagpchabkplggaa.sxRetry
open Go.Sx Go.RowKit
set_option linter.unusedVariables false
set_option linter.unusedSimpArgs false
set_option maxRecDepth 100000

theorem plain : Plain Try.prog := plain_of (by kernel_rfl)
theorem mixed : Try.prog.follows .mixedOrders = true := by kernel_rfl

theorem gd_obl : gd.obl Try.prog 0 = some gd0 := by kernel_rfl
theorem sp_obl0 : sp.obl Try.prog 0 = some sp0 := by kernel_rfl
theorem sp_obl1 : sp.obl Try.prog 1 = some sp1 := by kernel_rfl
theorem im_obl0 : im.obl Try.prog 0 = some im0 := by kernel_rfl
theorem im_obl1 : im.obl Try.prog 1 = some im1 := by kernel_rfl
theorem cm_obl0 : cm.obl Try.prog 0 = some cm0 := by kernel_rfl
theorem cm_obl1 : cm.obl Try.prog 1 = some cm1 := by kernel_rfl

section
variable {o : Env} {most reset : Int} {K N : Nat → Int} {n : Nat}

theorem base_hold (H : Is o most reset K N n) {D : LoopY} (hr : D.r = 2000) {i : Nat} (hi : i ≤ n) (hn : n ≤ 80) (u : Nat → Value) : base.Hold (D.env o u i) := by
  simp only [base, r, hold_cons_iff, hold_nil_iff, dB_le, dI_il, d_v, LoopY.env, hr, if_true, if_false, Nat.reduceEqDiff, I_i, H.v64, decide_eq_true_eq, and_true]
  omega

theorem gd_ok (H : Is o most reset K N n) : LpOk Try.prog o 4 6 gd.lpP := by
  refine LoopY.lp_ok (D := gd) plain mixed (by kernel_rfl) H.v2000 (fun μ0 sl hmd hf => ?_) (fun ν => rfl)
  have hμ : μ0 = 0 := by have : some 0 = some μ0 := hmd; injection this with this; exact this.symm
  subst hμ
  have hn : n ≤ 80 := by
    have hf : base.Hold o := hf
    simp only [base, hold_cons_iff, hold_nil_iff, dB_le, dI_il, d_v, I_i, H.v64, decide_eq_true_eq, and_true] at hf
    omega
  have hsl := stop_le (bad := badAt K N) (n := n)
  exact ⟨⟨stop (badAt K N) n, fun _ μ => μ = 0, fun _ => gd0, fun i u A hi => extOk_none, fun i μ hm => by subst hm; exact gd_obl, fun i μ u hm hi x hx => allL_mem (gd_all H hi) x hx,
    fun i μ u hm hi => by subst hm; exact base_hold H gr (by omega) hn u,
    fun i u hi hl => by
      simp only [show gd.lt = .o2 .lt r (.v 3001) from rfl, r, dB_lt, d_v, LoopY.env, gr, if_true, if_false, Nat.reduceEqDiff, I_i, H.v3001, decide_eq_true_eq] at hl
      omega,
    fun i μ μ' hm ht => Nat.eq_of_beq_eq_true ht, rfl⟩⟩

theorem good_of (H : Is o most reset K N n) (h : (o.v 3000).B = false) : ∀ j, j < n → okOp (K j) (N j) := by
  intro j hj
  rw [H.v3000] at h
  have h : decide (stop (badAt K N) n < n) = false := h
  have h := of_decide_eq_false h
  have : (!decide (okOp (K j) (N j))) = false := stop_before (bad := badAt K N) (n := n) (by have := stop_le (bad := badAt K N) (n := n); omega)
  simpa using this

def spL : Nat → List (Facts × List Ob) | 0 => sp0 | _ => sp1
def imL : Nat → List (Facts × List Ob) | 0 => im0 | _ => im1
def modes (i μ : Nat) : Prop := μ ≤ 1 ∧ (μ = 0 ↔ i = 0)
theorem modes_next {i μ' : Nat} (h : Nat.beq μ' 1 = true) : modes (i + 1) μ' := by
  have := Nat.eq_of_beq_eq_true h
  subst this
  exact ⟨Nat.le_refl 1, by omega⟩
theorem m0_one (H : Is o most reset K N n) {fs : Facts} (h : Facts.Hold o (m0F 1 ++ fs)) : False := by
  have := (hold_append_iff.1 h).1
  simp only [m0F, r, hold_cons_iff, hold_nil_iff, dB_lt, dI_il, d_v, I_i, H.v2000, decide_eq_true_eq, and_true] at this
  omega
theorem m0_hold (H : Is o most reset K N n) {D : LoopY} (hr : D.r = 2000) {i μ : Nat} (hm : modes i μ) (u : Nat → Value) : (m0F μ).Hold (D.env o u i) := by
  obtain ⟨h1, h2⟩ := hm
  match μ, h1 with
  | 0, _ =>
    have := h2.1 rfl
    simp only [m0F, r, hold_cons_iff, hold_nil_iff, dB_ieq, dI_il, d_v, LoopY.env, hr, if_true, if_false, Nat.reduceEqDiff, I_i, decide_eq_true_eq, and_true]
    omega
  | 1, _ =>
    have : i ≠ 0 := fun e => absurd (h2.2 e) (by omega)
    simp only [m0F, r, hold_cons_iff, hold_nil_iff, dB_lt, dI_il, d_v, LoopY.env, hr, if_true, if_false, Nat.reduceEqDiff, I_i, decide_eq_true_eq, and_true]
    omega
theorem st_entry (H : Is o most reset K N n) (h : stF.Hold o) : n ≤ 80 ∧ 0 ≤ reset ∧ reset ≤ 1099511627776 ∧ ∀ j, j < n → okOp (K j) (N j) := by
  have h3 : (o.v 3000).B = false := h (.v 3000) false (List.mem_cons_self ..)
  have hg := good_of H h3
  simp only [stF, base, rangeF, big, r, List.cons_append, List.nil_append, hold_cons_iff, hold_nil_iff, dB_le, dI_il, d_v, d_fn, I_i, H.v64, H.v32, H.v2000, decide_eq_true_eq, and_true] at h
  exact ⟨by omega, by omega, by omega, hg⟩
theorem st_hold (H : Is o most reset K N n) {D : LoopY} (hr : D.r = 2000) {i : Nat} (hi : i ≤ n) (hn : n ≤ 80) (hre : 0 ≤ reset ∧ reset ≤ 1099511627776) (hg : ∀ j, j < n → okOp (K j) (N j)) (u : Nat → Value) : stF.Hold (D.env o u i) := by
  have hs := small (most := most) (reset := reset) (K := K) (N := N) i (fun j hj => hg j (by omega))
  have h3 : decide (stop (badAt K N) n < n) = false := by
    apply decide_eq_false
    intro h
    have : (!decide (okOp (K (stop (badAt K N) n)) (N (stop (badAt K N) n)))) = true := stop_at h
    simp [hg _ h] at this
  simp only at hs
  simp only [stF, base, rangeF, big, r, List.cons_append, List.nil_append, hold_cons_iff, hold_nil_iff, dB_le, dI_il, d_v, d_fn, LoopY.env, hr, if_true, if_false, Nat.reduceEqDiff, I_i, B_b, H.v64, H.v32, H.v3000, H.f1001, H.f1002, H.f1003, h3, decide_eq_true_eq, and_true, true_and]
  omega

theorem sp_ok (H : Is o most reset K N n) : LpOk Try.prog o 13 5 sp.lpP := by
  refine LoopY.lp_ok (D := sp) plain mixed (by kernel_rfl) H.v2000 (fun μ0 sl hmd hf => ?_) (fun ν => by unfold sp outO; rcases ν with _ | ν <;> rfl)
  have hμ : μ0 = 0 ∨ μ0 = 1 := by
    have hmd : (match nth sl 11 with | some .nilsl => some 0 | some (.sl ..) => some 1 | _ => none) = some μ0 := hmd
    split at hmd <;> first | (injection hmd with hmd; omega) | cases hmd
  rcases hμ with rfl | rfl
  · have hf : Facts.Hold o (m0F 0 ++ stF) := hf
    obtain ⟨hn, h1, h2, hg⟩ := st_entry H (hold_append_iff.1 hf).2
    exact ⟨⟨n, modes, spL, fun i u A hi => extOk_none, fun i μ hm => by
        match μ, hm.1 with
        | 0, _ => exact sp_obl0
        | 1, _ => exact sp_obl1,
      fun i μ u hm hi x hx => by have hA := sp_all (u := u) H hi hn hg μ hm.2; rcases μ with _ | μ <;> exact allL_mem hA x hx, fun i μ u hm hi => hold_append (m0_hold H sr hm u) (st_hold H sr hi hn ⟨h1, h2⟩ hg u),
      fun i u hi hl => by
        simp only [show sp.lt = .o2 .lt r (.v 64) from rfl, r, dB_lt, d_v, LoopY.env, sr, if_true, if_false, Nat.reduceEqDiff, I_i, H.v64, decide_eq_true_eq] at hl
        omega,
      fun i μ μ' hm ht => modes_next ht, ⟨by omega, by omega⟩⟩⟩
  · exact (m0_one H (fs := stF) hf).elim

theorem im_hold (H : Is o most reset K N n) {i : Nat} (hi : i ≤ n) (hm : -1099511627776 ≤ most ∧ most ≤ 1099511627776) (hn : n ≤ 80) (hg : ∀ j, j < n → okOp (K j) (N j)) (u : Nat → Value) :
    Facts.Hold (im.env o u i) (rangeF 0 big (.fn 1005 r) ++ rangeF 0 big (.fn 1006 r) ++ rangeF (-1099511627776) 1099511627776 (.v 0) ++ opF) := by
  have hs := small (most := most) (reset := reset) (K := K) (N := N) i (fun j hj => hg j (by omega))
  simp only at hs
  simp only [opF, rangeF, big, r, List.cons_append, List.nil_append, hold_cons_iff, hold_nil_iff, dB_le, dB_lt, dB_ieq, dB_or, dB_not, dI_il, d_v, d_fn, LoopY.env, ir, if_true, if_false, Nat.reduceEqDiff, I_i, B_b, H.v64, H.v0, H.f64, H.f65, H.f1005, H.f1006, decide_eq_true_eq, and_true]
  generalize stAt most reset K N i = s at *
  obtain ⟨snow, sfirst, slast, sany⟩ := s
  simp only at hs
  refine ⟨?_, ?_, ?_, ?_, by omega, by omega, ?_⟩
  · cases sany <;> simp only [St.fi, cond_true, cond_false] <;> omega
  · cases sany <;> simp only [St.fi, cond_true, cond_false] <;> omega
  · cases sany <;> simp only [St.la, cond_true, cond_false] <;> omega
  · cases sany <;> simp only [St.la, cond_true, cond_false] <;> omega
  · by_cases hl : i < n
    · by_cases h1 : K i = 1
      · rcases (hg i hl).2.2.2 h1 with h | h | h <;> simp [h1, h]
      · simp [h1]
    · have : ¬ ((i : Int) < (n : Int)) := by omega
      simp [this]

theorem im_ok (H : Is o most reset K N n) : LpOk Try.prog o 12 5 im.lpP := by
  refine LoopY.lp_ok (D := im) plain mixed (by kernel_rfl) H.v2000 (fun μ0 sl hmd hf => ?_) (fun ν => by unfold im outO; rcases ν with _ | ν <;> rfl)
  have hμ : μ0 = 0 ∨ μ0 = 1 := by
    have hmd : (match nth sl 2, nth sl 9 with | some (.sl 2 ..), some .nilsl => some 0 | some (.sl 2 ..), some (.sl ..) => some 1 | _, _ => none) = some μ0 := hmd
    split at hmd <;> first | (injection hmd with hmd; omega) | cases hmd
  have hsplit : ∀ μ e, Facts.Hold e (im.hd μ).fs ↔ Facts.Hold e (m0F μ) ∧ Facts.Hold e stF ∧ Facts.Hold e (rangeF 0 big (.fn 1005 r) ++ rangeF 0 big (.fn 1006 r) ++ rangeF (-1099511627776) 1099511627776 (.v 0) ++ opF) := by
    intro μ e
    rw [← hold_append_iff, ← hold_append_iff]
    show Facts.Hold e (m0F μ ++ stF ++ rangeF 0 big (.fn 1005 r) ++ rangeF 0 big (.fn 1006 r) ++ rangeF (-1099511627776) 1099511627776 (.v 0) ++ opF) ↔ _
    simp only [List.append_assoc]
  have hf : Facts.Hold o (m0F μ0 ++ stF ++ rangeF (-1099511627776) 1099511627776 (.v 0)) := hf
  rcases hμ with rfl | rfl
  · obtain ⟨hf1, hf2⟩ := hold_append_iff.1 hf
    obtain ⟨hn, h1, h2, hg⟩ := st_entry H (hold_append_iff.1 hf1).2
    have hmost : -1099511627776 ≤ most ∧ most ≤ 1099511627776 := by
      simp only [rangeF, hold_cons_iff, hold_nil_iff, dB_le, dI_il, d_v, I_i, H.v0, decide_eq_true_eq, and_true] at hf2
      exact hf2
    exact ⟨⟨n, modes, imL, fun i u A hi => extOk_none, fun i μ hm => by
        match μ, hm.1 with
        | 0, _ => exact im_obl0
        | 1, _ => exact im_obl1,
      fun i μ u hm hi x hx => by have hA := im_all (u := u) H hi hn hg μ hm.2; rcases μ with _ | μ <;> exact allL_mem hA x hx, fun i μ u hm hi => (hsplit μ _).2 ⟨m0_hold H ir hm u, st_hold H ir hi hn ⟨h1, h2⟩ hg u, im_hold H hi hmost hn hg u⟩,
      fun i u hi hl => by
        simp only [show im.lt = .o2 .lt r (.v 64) from rfl, r, dB_lt, d_v, LoopY.env, ir, if_true, if_false, Nat.reduceEqDiff, I_i, H.v64, decide_eq_true_eq] at hl
        omega,
      fun i μ μ' hm ht => modes_next ht, ⟨by omega, by omega⟩⟩⟩
  · exact (m0_one H (fs := []) (by rw [List.append_nil]; exact (hold_append_iff.1 (hold_append_iff.1 hf).1).1)).elim

theorem cm_ok (H : Is o most reset K N n) : LpOk Try.prog o 4 15 cm.lpP := by
  refine LoopY.lp_ok (D := cm) plain mixed (by kernel_rfl) H.v2000 (fun μ0 sl hmd hf => ?_) (fun ν => rfl)
  have hμ : μ0 = 0 ∨ μ0 = 1 := by
    have hmd : (match nth sl 9 with | some .nilsl => some 0 | some (.sl ..) => some 1 | _ => none) = some μ0 := hmd
    split at hmd <;> first | (injection hmd with hmd; omega) | cases hmd
  have hf : Facts.Hold o (cmF μ0 ++ base) := hf
  have hn : n ≤ 80 := by
    have := (hold_append_iff.1 hf).2
    simp only [base, r, hold_cons_iff, hold_nil_iff, dB_le, dI_il, d_v, I_i, H.v64, decide_eq_true_eq, and_true] at this
    omega
  have h0 : μ0 = 0 → n = 0 := by
    intro h; subst h
    have := (hold_append_iff.1 hf).1
    simp only [cmF, hold_cons_iff, hold_nil_iff, dB_ieq, dI_il, d_v, I_i, H.v64, decide_eq_true_eq, and_true] at this
    omega
  refine ⟨⟨n, fun _ μ => μ ≤ 1 ∧ (μ = 0 → n = 0), fun μ => match μ with | 0 => cm0 | _ => cm1, fun i u A hi => extOk_none, fun i μ hm => by
        match μ, hm.1 with
        | 0, _ => exact cm_obl0
        | 1, _ => exact cm_obl1,
      fun i μ u hm hi x hx => ?_, fun i μ u hm hi => hold_append ?_ (base_hold H cr hi hn u),
      fun i u hi hl => by
        simp only [show cm.lt = .o2 .lt r (.v 64) from rfl, r, dB_lt, d_v, LoopY.env, cr, if_true, if_false, Nat.reduceEqDiff, I_i, H.v64, decide_eq_true_eq] at hl
        omega,
      fun i μ μ' hm ht => by have := Nat.eq_of_beq_eq_true ht; subst this; exact ⟨Nat.le_refl 1, by omega⟩, ⟨by omega, h0⟩⟩⟩
  · have hA : ∀ x ∈ (match μ with | 0 => cm0 | _ => cm1), x.2 = [] := by
      rcases μ with _ | μ
      · simp [cm0]
      · simp [cm1]
    intro _
    rw [hA x hx]
    exact fun y hy => by cases hy
  · rcases μ with _ | μ
    · have := hm.2 rfl
      simp only [cmF, hold_cons_iff, hold_nil_iff, dB_ieq, dI_il, d_v, LoopY.env, cr, if_true, if_false, Nat.reduceEqDiff, I_i, H.v64, decide_eq_true_eq, and_true]
      omega
    · exact hold_nil
theorem ctr_ok (H : Is o most reset K N n) (w0 : Anchor) : ExtOk Try.prog o w0 (ctr.x.toExt Try.prog) := by
  refine Ctr.ok (by kernel_rfl) (fun x hx => by cases hx) (fun x hx => ?_) w0
  simp only [ctr, List.mem_cons, List.not_mem_nil, or_false] at hx
  rcases hx with rfl | rfl | rfl | rfl
  · exact gd_ok H
  · exact sp_ok H
  · exact im_ok H
  · exact cm_ok H
end

end Go.Proofs.Ytagpchabkplggaa.sxRetry
