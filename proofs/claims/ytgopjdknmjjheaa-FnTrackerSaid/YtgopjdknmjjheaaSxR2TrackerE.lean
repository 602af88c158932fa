/-
  THE LAW FnTracker: its loops' contracts.
-/
import Derived.Test.YtgopjdknmjjheaaSxR2TrackerD
namespace Go.Proofs.Ytgopjdknmjjheaa.sxTracker
open Go.Sx Go.RowKit
set_option linter.unusedVariables false
set_option linter.unusedSimpArgs false
set_option maxRecDepth 100000

theorem plain : Plain Try.prog := plain_of (by kernel_rfl)
theorem mixed : Try.prog.follows .mixedOrders = true := by kernel_rfl

theorem g1_obl : g1.obl Try.prog 0 = some g1L0 := by kernel_rfl
theorem g2_obl : g2.obl Try.prog 0 = some g2L0 := by kernel_rfl
theorem sp_obl0 : sp.obl Try.prog 0 = some spL0 := by kernel_rfl
theorem sp_obl1 : sp.obl Try.prog 1 = some spL1 := by kernel_rfl
theorem im_obl0 : im.obl Try.prog 0 = some imL0 := by kernel_rfl
theorem im_obl1 : im.obl Try.prog 1 = some imL1 := by kernel_rfl
theorem im_obl2 : im.obl Try.prog 2 = some imL2 := by kernel_rfl
theorem cm_obl0 : cm.obl Try.prog 0 = some cmL0 := by kernel_rfl
theorem cm_obl1 : cm.obl Try.prog 1 = some cmL1 := by kernel_rfl

section
variable {o : Env} {single : Bool} {K : Nat → Int} {S : Nat → ByteArray} {n : Nat}

theorem base_hold (H : Is o single K S n) {D : LoopY} (hr : D.r = 2000) {i : Nat} (hi : i ≤ n) (u : Nat → Value) : base.Hold (D.env o u i) := by
  simp only [base, r, hold_cons_iff, hold_nil_iff, dB_le, dI_il, d_v, LoopY.env, hr, if_true, if_false, Nat.reduceEqDiff, I_i, H.v32, decide_eq_true_eq, and_true]
  omega
theorem nF_out (H : Is o single K S n) (h : nF.Hold o) : (n : Int) ≤ 9223372036854775807 := by
  simp only [nF, hold_cons_iff, hold_nil_iff, dB_le, dI_il, d_v, I_i, H.v32, decide_eq_true_eq, and_true] at h
  exact h
theorem nF_hold (H : Is o single K S n) {D : LoopY} (hr : D.r = 2000) {i : Nat} (h : (n : Int) ≤ 9223372036854775807) (u : Nat → Value) : nF.Hold (D.env o u i) := by
  simp only [nF, hold_cons_iff, hold_nil_iff, dB_le, dI_il, d_v, LoopY.env, hr, if_true, if_false, Nat.reduceEqDiff, I_i, H.v32, decide_eq_true_eq, and_true]
  exact h

theorem g1_ok (H : Is o single K S n) : LpOk Try.prog o 6 4 g1.lpP := by
  refine LoopY.lp_ok (D := g1) plain mixed (by kernel_rfl) H.v2000 (fun μ0 h0 hf => ?_) (fun ν => rfl)
  have hn := nF_out H (hold_append_iff.1 (show Facts.Hold o (base ++ nF) from hf)).2
  have hsl := stop_le (bad := bad1 S) (n := n)
  exact ⟨⟨stop (bad1 S) n, fun _ _ μ => μ = 0, fun _ => g1L0, fun i u A hi => extOk_none, fun u i μ hm => by subst hm; exact g1_obl, fun i μ u hm hi x hx => allL_mem (g1_all H hi hn) x hx,
    fun i μ u hm hi => by subst hm; exact hold_append (base_hold H g1r (by omega) u) (nF_hold H g1r hn u),
    fun i u hi hl => by
      simp only [show g1.lt = .o2 .lt r (.v 3001) from rfl, r, dB_lt, d_v, LoopY.env, g1r, if_true, if_false, Nat.reduceEqDiff, I_i, H.v3001, decide_eq_true_eq] at hl
      omega,
    fun u i μ μ' hm ht _ => Nat.eq_of_beq_eq_true ht, fun u _ => Nat.eq_of_beq_eq_true h0⟩⟩
theorem g2_ok (H : Is o single K S n) : LpOk Try.prog o 3 6 g2.lpP := by
  refine LoopY.lp_ok (D := g2) plain mixed (by kernel_rfl) H.v2000 (fun μ0 h0 hf => ?_) (fun ν => rfl)
  have hn := nF_out H (hold_append_iff.1 (show Facts.Hold o (base ++ nF) from hf)).2
  have hsl := stop_le (bad := bad2 K S) (n := n)
  exact ⟨⟨stop (bad2 K S) n, fun _ _ μ => μ = 0, fun _ => g2L0, fun i u A hi => extOk_none, fun u i μ hm => by subst hm; exact g2_obl, fun i μ u hm hi x hx => allL_mem (g2_all H hi hn) x hx,
    fun i μ u hm hi => by subst hm; exact hold_append (base_hold H g2r (by omega) u) (nF_hold H g2r hn u),
    fun i u hi hl => by
      simp only [show g2.lt = .o2 .lt r (.v 3003) from rfl, r, dB_lt, d_v, LoopY.env, g2r, if_true, if_false, Nat.reduceEqDiff, I_i, H.v3003, decide_eq_true_eq] at hl
      omega,
    fun u i μ μ' hm ht _ => Nat.eq_of_beq_eq_true ht, fun u _ => Nat.eq_of_beq_eq_true h0⟩⟩

theorem good_of (H : Is o single K S n) (h : (o.v 3002).B = false) : ∀ j, j < n → okOp (K j) (S j) := by
  intro j hj
  rw [H.v3002] at h
  have h : decide (stop (bad2 K S) n < n) = false := h
  have h := of_decide_eq_false h
  have : (!decide (1 ≤ K j ∧ K j ≤ 4 ∧ ((S j).size : Int) ≤ 20)) = false := stop_before (bad := bad2 K S) (n := n) (by have := stop_le (bad := bad2 K S) (n := n); omega)
  rw [Bool.not_eq_false'] at this
  show 1 ≤ K j ∧ K j ≤ 4 ∧ ((S j).size : Int) ≤ 20
  exact of_decide_eq_true this
theorem bad_of (hg : ∀ j, j < n → okOp (K j) (S j)) : decide (stop (bad2 K S) n < n) = false := by
  apply decide_eq_false
  intro h
  have : (!decide (1 ≤ K (stop (bad2 K S) n) ∧ K (stop (bad2 K S) n) ≤ 4 ∧ ((S (stop (bad2 K S) n)).size : Int) ≤ 20)) = true := stop_at h
  rw [Bool.not_eq_true'] at this
  exact of_decide_eq_false this (hg _ h)

theorem st_entry (H : Is o single K S n) (h : stF.Hold o) : n ≤ 80 ∧ ∀ j, j < n → okOp (K j) (S j) := by
  have h3 : (o.v 3002).B = false := h (.v 3002) false (List.mem_cons_self ..)
  have hg := good_of H h3
  simp only [stF, base, r, List.cons_append, List.nil_append, hold_cons_iff, hold_nil_iff, dB_le, dI_il, d_v, d_fn, I_i, H.v32, H.v2000, decide_eq_true_eq, and_true] at h
  exact ⟨by omega, hg⟩
theorem st_hold (H : Is o single K S n) {D : LoopY} (hr : D.r = 2000) {i : Nat} (hi : i ≤ n) (hn : n ≤ 80) (hg : ∀ j, j < n → okOp (K j) (S j)) (u : Nat → Value) : stF.Hold (D.env o u i) := by
  simp only [stF, base, r, List.cons_append, List.nil_append, hold_cons_iff, hold_nil_iff, dB_le, dI_il, d_v, d_fn, LoopY.env, hr, if_true, if_false, Nat.reduceEqDiff, I_i, B_b, H.v32, H.v3002, bad_of hg, decide_eq_true_eq, and_true, true_and]
  omega
theorem m0_hold (H : Is o single K S n) {D : LoopY} (hr : D.r = 2000) {i μ : Nat} (hm : μ = 0 ↔ i = 0) (u : Nat → Value) : (m0F μ).Hold (D.env o u i) := by
  rcases μ with _ | μ
  · have := hm.1 rfl
    simp only [m0F, r, hold_cons_iff, hold_nil_iff, dB_ieq, dI_il, d_v, LoopY.env, hr, if_true, if_false, Nat.reduceEqDiff, I_i, decide_eq_true_eq, and_true]
    omega
  · have : i ≠ 0 := fun e => absurd (hm.2 e) (by omega)
    simp only [m0F, r, hold_cons_iff, hold_nil_iff, dB_lt, dI_il, d_v, LoopY.env, hr, if_true, if_false, Nat.reduceEqDiff, I_i, decide_eq_true_eq, and_true]
    omega

def spL : Nat → List (Facts × List Ob) | 0 => spL0 | _ => spL1
def imL : Nat → List (Facts × List Ob) | 0 => imL0 | 1 => imL1 | _ => imL2

theorem z0_sp (H : Is o single K S n) {i μ : Nat} (hm : μ = 0 ↔ i = 0) (u : Nat → Value) : Facts.Hold (sp.env o u i) (z0F [1003, 1004] [1001, 1002, 1005] μ) := by
  rcases μ with _ | μ
  · have := hm.1 rfl
    subst this
    simp only [z0F, r, List.map, List.cons_append, List.nil_append, hold_cons_iff, hold_nil_iff, dB_ieq, dI_il, d_v, d_fn, LoopY.env, sr, if_true, if_false, Nat.reduceEqDiff, I_i, B_b, H.f1001, H.f1002, H.f1003, H.f1004, H.f1005, decide_eq_true_eq, and_true]
    exact ⟨rfl, rfl, rfl, rfl, rfl⟩
  · exact hold_nil
theorem z0_im (H : Is o single K S n) {i μ : Nat} (hm : μ = 0 ↔ i = 0) (u : Nat → Value) : Facts.Hold (im.env o u i) (z0F [1011, 1004] [1012, 1013, 1014, 1015] μ) := by
  rcases μ with _ | μ
  · have := hm.1 rfl
    subst this
    simp only [z0F, r, List.map, List.cons_append, List.nil_append, hold_cons_iff, hold_nil_iff, dB_ieq, dI_il, d_v, d_fn, LoopY.env, ir, if_true, if_false, Nat.reduceEqDiff, I_i, B_b, H.f1004, H.f1011, H.f1012, H.f1013, H.f1014, H.f1015, decide_eq_true_eq, and_true]
    cases single <;> exact ⟨rfl, rfl, rfl, rfl, rfl, rfl⟩
  · exact hold_nil
theorem cnt_sp (H : Is o single K S n) {i : Nat} (hi : i ≤ n) (hn : n ≤ 80) (u : Nat → Value) : Facts.Hold (sp.env o u i) (rangeF (-big) big (.fn 1003 r)) := by
  have hI : Inv single (stAt single K S i) i := inv i
  have h2 := hI.lo
  have h3 := hI.hi
  simp only [rangeF, big, r, hold_cons_iff, hold_nil_iff, dB_le, dI_il, d_v, d_fn, LoopY.env, sr, if_true, if_false, Nat.reduceEqDiff, I_i, H.f1003, decide_eq_true_eq, and_true]
  omega
theorem cnt_im (H : Is o single K S n) {i : Nat} (hi : i ≤ n) (hn : n ≤ 80) (u : Nat → Value) : Facts.Hold (im.env o u i) (rangeF 0 big (.fn 1011 r)) := by
  have hI : Inv single (stAt single K S i) i := inv i
  have h1 := hI.pos
  have h3 := hI.hi
  simp only [rangeF, big, r, hold_cons_iff, hold_nil_iff, dB_le, dI_il, d_v, d_fn, LoopY.env, ir, if_true, if_false, Nat.reduceEqDiff, I_i, H.f1011, decide_eq_true_eq, and_true]
  cases single
  · simp only [cond_false]; omega
  · have := h1 rfl
    simp only [cond_true]; omega

theorem sp_ok (H : Is o single K S n) : LpOk Try.prog o 8 6 sp.lpP := by
  refine LoopY.lp_ok (D := sp) plain mixed (by kernel_rfl) H.v2000 (fun μ0 h0 hf => ?_) (fun ν => by unfold sp outO; rcases ν with _ | ν <;> rfl)
  have : μ0 = 0 := Nat.eq_of_beq_eq_true h0
  subst this
  have hf : Facts.Hold o (m0F 0 ++ stF) := hf
  obtain ⟨hn, hg⟩ := st_entry H (hold_append_iff.1 hf).2
  exact ⟨⟨n, fun _ i μ => μ ≤ 1 ∧ (μ = 0 ↔ i = 0), spL, fun i u A hi => extOk_none, fun u i μ hm => by
      match μ, hm.1 with
      | 0, _ => exact sp_obl0
      | 1, _ => exact sp_obl1,
    fun i μ u hm hi x hx => by have hA := sp_all (u := u) H hi hn hg μ hm.2; rcases μ with _ | μ <;> exact allL_mem hA x hx,
    fun i μ u hm hi => hold_append (hold_append (hold_append (m0_hold H sr hm.2 u) (z0_sp H hm.2 u)) (st_hold H sr hi hn hg u)) (cnt_sp H hi hn u),
    fun i u hi hl => by
      simp only [show sp.lt = .o2 .lt r (.v 32) from rfl, r, dB_lt, d_v, LoopY.env, sr, if_true, if_false, Nat.reduceEqDiff, I_i, H.v32, decide_eq_true_eq] at hl
      omega,
    fun u i μ μ' hm ht _ => by have := Nat.eq_of_beq_eq_true ht; subst this; exact ⟨Nat.le_refl 1, by omega⟩, fun u _ => ⟨by omega, by omega⟩⟩⟩

/-- The modes of impl.Tracker's loop. -/
def md (single : Bool) (K : Nat → Int) (S : Nat → ByteArray) (i μ : Nat) : Prop := μ ≤ 2 ∧ (μ = 0 ↔ i = 0) ∧ (μ = 1 → single = true ∨ (stAt single K S i).none = true) ∧ (μ = 2 → single = false)
theorem mf_hold (H : Is o single K S n) {i μ : Nat} (hm : md single K S i μ) (u : Nat → Value) : Facts.Hold (im.env o u i) (imF μ) := by
  obtain ⟨h1, h2, h3, h4⟩ := hm
  match μ, h1 with
  | 0, _ => exact hold_nil
  | 1, _ =>
    have := h3 rfl
    simp only [imF, r, hold_cons_iff, hold_nil_iff, dB_or, d_v, d_fn, LoopY.env, ir, if_true, if_false, Nat.reduceEqDiff, I_i, B_b, H.v0, H.f1016, Bool.or_eq_true, and_true]
    exact this
  | 2, _ =>
    simp only [imF, r, hold_cons_iff, hold_nil_iff, d_v, LoopY.env, ir, if_true, if_false, Nat.reduceEqDiff, I_i, B_b, H.v0, and_true]
    exact h4 rfl
theorem mf_out (H : Is o single K S n) {i μ : Nat} (u : Nat → Value) (h : Facts.Hold (im.env o u i) (imF μ)) : (μ = 1 → single = true ∨ (stAt single K S i).none = true) ∧ (μ = 2 → single = false) := by
  constructor
  · intro e
    subst e
    simp only [imF, r, hold_cons_iff, hold_nil_iff, dB_or, d_v, d_fn, LoopY.env, ir, if_true, if_false, Nat.reduceEqDiff, I_i, B_b, H.v0, H.f1016, Bool.or_eq_true, and_true] at h
    exact h
  · intro e
    subst e
    simp only [imF, r, hold_cons_iff, hold_nil_iff, d_v, LoopY.env, ir, if_true, if_false, Nat.reduceEqDiff, I_i, B_b, H.v0, and_true] at h
    exact h
theorem im_ok (H : Is o single K S n) : LpOk Try.prog o 7 6 im.lpP := by
  refine LoopY.lp_ok (D := im) plain mixed (by kernel_rfl) H.v2000 (fun μ0 h0 hf => ?_) (fun ν => by unfold im outO; rcases ν with _ | ν <;> rfl)
  have : μ0 = 0 := Nat.eq_of_beq_eq_true h0
  subst this
  have hf : Facts.Hold o (m0F 0 ++ stF) := hf
  obtain ⟨hn, hg⟩ := st_entry H (hold_append_iff.1 hf).2
  exact ⟨⟨n, fun _ i μ => md single K S i μ, imL, fun i u A hi => extOk_none, fun u i μ hm => by
      match μ, hm.1 with
      | 0, _ => exact im_obl0
      | 1, _ => exact im_obl1
      | 2, _ => exact im_obl2,
    fun i μ u hm hi x hx => by
      obtain ⟨h1, h2, h3, h4⟩ := hm
      match μ, h1 with
      | 0, _ => exact allL_mem (im0_all (u := u) H hi hn hg (h2.1 rfl)) x hx
      | 1, _ => exact allL_mem (im1_all (u := u) H hi hn hg (fun e => absurd (h2.2 e) (by omega)) (h3 rfl)) x hx
      | 2, _ => exact allL_mem (im2_all (u := u) H hi hn hg (fun e => absurd (h2.2 e) (by omega)) (h4 rfl)) x hx,
    fun i μ u hm hi => hold_append (hold_append (hold_append (hold_append (mf_hold H hm u) (m0_hold H ir hm.2.1 u)) (z0_im H hm.2.1 u)) (st_hold H ir hi hn hg u)) (cnt_im H hi hn u),
    fun i u hi hl => by
      simp only [show im.lt = .o2 .lt r (.v 32) from rfl, r, dB_lt, d_v, LoopY.env, ir, if_true, if_false, Nat.reduceEqDiff, I_i, H.v32, decide_eq_true_eq] at hl
      omega,
    fun u i μ μ' hm ht hf => by
      obtain ⟨g1, g2⟩ := mf_out H u hf
      have ht : (Nat.beq μ' 1 || Nat.beq μ' 2) = true := ht
      have : μ' = 1 ∨ μ' = 2 := by
        rcases Bool.or_eq_true_iff.1 ht with h | h
        · exact Or.inl (Nat.eq_of_beq_eq_true h)
        · exact Or.inr (Nat.eq_of_beq_eq_true h)
      exact ⟨by omega, by omega, g1, g2⟩, fun u _ => ⟨by omega, by omega, fun h => by omega, fun h => by omega⟩⟩⟩

theorem cm_ok (H : Is o single K S n) : LpOk Try.prog o 3 15 cm.lpP := by
  refine LoopY.lp_ok (D := cm) plain mixed (by kernel_rfl) H.v2000 (fun μ0 h0 hf => ?_) (fun ν => rfl)
  have hμ : μ0 ≤ 1 := Nat.le_of_ble_eq_true h0
  have hf : Facts.Hold o (cmF μ0 ++ base ++ [(.o2 .le (.v 32) (.il 80), true)]) := hf
  have hn : n ≤ 80 := by
    have := (hold_append_iff.1 hf).2
    simp only [base, r, hold_cons_iff, hold_nil_iff, dB_le, dI_il, d_v, I_i, H.v32, decide_eq_true_eq, and_true] at this
    omega
  have h0 : μ0 = 0 → n = 0 := by
    intro h; subst h
    have := (hold_append_iff.1 (hold_append_iff.1 hf).1).1
    simp only [cmF, hold_cons_iff, hold_nil_iff, dB_ieq, dI_il, d_v, I_i, H.v32, decide_eq_true_eq, and_true] at this
    omega
  exact ⟨⟨n, fun _ _ μ => μ ≤ 1 ∧ (μ = 0 → n = 0), fun μ => match μ with | 0 => cmL0 | _ => cmL1, fun i u A hi => extOk_none, fun u i μ hm => by
        match μ, hm.1 with
        | 0, _ => exact cm_obl0
        | 1, _ => exact cm_obl1,
    fun i μ u hm hi x hx => by
      match μ, hm.1 with
      | 0, _ => exact allL_mem (L := cmL0) (by simp only [cmL0, allL_cons, allL_nil, allT_nil, and_true]; exact fun _ => trivial) x hx
      | 1, _ => exact allL_mem (L := cmL1) (by simp only [cmL1, allL_cons, allL_nil, allT_nil, and_true]; exact ⟨fun _ => trivial, fun _ => trivial⟩) x hx,
    fun i μ u hm hi => by
      refine hold_append (hold_append ?_ (base_hold H cr hi u)) ?_
      · match μ, hm with
        | 0, hm =>
          have := hm.2 rfl
          simp only [cmF, hold_cons_iff, hold_nil_iff, dB_ieq, dI_il, d_v, LoopY.env, cr, if_true, if_false, Nat.reduceEqDiff, I_i, H.v32, decide_eq_true_eq, and_true]
          omega
        | 1, _ => exact hold_nil
        | μ + 2, hm => exact absurd hm.1 (by omega)
      · simp only [hold_cons_iff, hold_nil_iff, dB_le, dI_il, d_v, LoopY.env, cr, if_true, if_false, Nat.reduceEqDiff, I_i, H.v32, decide_eq_true_eq, and_true]
        omega,
    fun i u hi hl => by
      simp only [show cm.lt = .o2 .lt r (.v 32) from rfl, r, dB_lt, d_v, LoopY.env, cr, if_true, if_false, Nat.reduceEqDiff, I_i, H.v32, decide_eq_true_eq] at hl
      omega,
    fun u i μ μ' hm ht _ => by have := Nat.eq_of_beq_eq_true ht; subst this; exact ⟨Nat.le_refl 1, fun h => by omega⟩, fun u _ => ⟨hμ, h0⟩⟩⟩

theorem ctr_ok (H : Is o single K S n) (A : Anchor) : ExtOk Try.prog o A (ctr.x.toExt Try.prog) := by
  refine Ctr.ok (by kernel_rfl) (fun x hx => by cases hx) (fun x hx => ?_) A
  simp only [ctr, List.mem_cons, List.not_mem_nil, or_false] at hx
  rcases hx with rfl | rfl | rfl | rfl | rfl
  · exact g1_ok H
  · exact g2_ok H
  · exact sp_ok H
  · exact im_ok H
  · exact cm_ok H
end
end Go.Proofs.Ytgopjdknmjjheaa.sxTracker
