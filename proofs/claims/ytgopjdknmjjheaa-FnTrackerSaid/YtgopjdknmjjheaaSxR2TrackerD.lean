/-
  THE LAW FnTracker: the rounds of impl.Tracker answer as the model does.
-/
import Derived.Test.YtgopjdknmjjheaaSxR2TrackerC
namespace Go.Proofs.Ytgopjdknmjjheaa.sxTracker
open Go.Sx Go.RowKit
set_option linter.unusedVariables false
set_option linter.unusedSimpArgs false
set_option maxRecDepth 100000
section
variable {o : Env} {single : Bool} {K : Nat → Int} {S : Nat → ByteArray} {n i : Nat} {u : Nat → Value}
set_option maxHeartbeats 4000000 in
theorem im0_all (H : Is o single K S n) (hi : i ≤ n) (hn80 : n ≤ 80) (hok : ∀ j, j < n → okOp (K j) (S j)) (hz0 : i = 0) : AllL (im.env o u i) imL0 := by
  have hp := n_pos (single := single) (K := K) (S := S) i
  have hI : Inv single (stAt single K S i) i := inv i
  have hoi : i < n → 1 ≤ K i ∧ K i ≤ 4 := fun h => ⟨(hok i h).1, (hok i h).2.1⟩
  have f0 : o.fn 1000 0 = .i (ans single K S 0) := H.f1000 0
  have hz : i = 0 → (stAt single K S i).up = false ∧ (stAt single K S i).synced = false ∧ (stAt single K S i).count = 0 ∧ (stAt single K S i).has = (fun _ => false) ∧ (stAt single K S i).n = 0 ∧ (stAt single K S i).none = true := fun e => by subst e; exact ⟨rfl, rfl, rfl, rfl, rfl, rfl⟩
  clear hok
  subst hz0
  all_goals simp only [imL0, allL_cons, allL_nil, and_true]
  all_goals and_intros
  all_goals intro h
  all_goals simp only [hold_cons_iff, hold_nil_iff, d_v, d_fn, dI_il, dI_add, dI_sub, dB_lt, dB_le, dB_ieq, dB_or, Bool.or_eq_true, LoopY.env, ir, if_true, if_false, Nat.reduceEqDiff, I_i, B_b, H.v0, H.v32, H.f32, H.f33, H.f1001, H.f1002, H.f1003, H.f1004, H.f1005, H.f1011, H.f1012, H.f1013, H.f1014, H.f1015, H.f1016, decide_eq_true_eq, decide_eq_false_iff_not, and_true] at h
  all_goals simp only [allT_cons, allT_nil, and_true]
  all_goals and_intros
  all_goals first | refine mp2_yes rfl H ?_ | refine mp2_no rfl H ?_ | refine mp2_may rfl H ?_ | refine mp2_new rfl H ?_ ?_ | simp only [ob_e, dB_lt, dB_le, dB_ieq, dB_or, Bool.or_eq_true, dB_beq, dB_bl, dB_not, dI_il, dI_add, dI_sub, d_v, d_fn, LoopY.env, ir, if_true, if_false, Nat.reduceEqDiff, I_i, B_b, H.v0, H.v32, H.f32, H.f33, f0, H.f1000, H.f1001, H.f1002, H.f1003, H.f1004, H.f1005, H.f1011, H.f1012, H.f1013, H.f1014, H.f1015, H.f1016, succ_cast, decide_eq_true_eq, decide_eq_false_iff_not, and_true, beq_iff_eq, ans, Bool.not_eq_true']
  all_goals try simp only [st_succ]
  all_goals generalize stAt single K S _ = s at *
  all_goals obtain ⟨up, sy, c, has, nn, no⟩ := s
  all_goals obtain ⟨h1, h2, h3, h4, h5⟩ := hI
  all_goals generalize K _ = k at *
  all_goals generalize S _ = w at *
  all_goals simp only at hp h h1 h2 h3 h4 h5 hz
  all_goals first
    | omega
    | (simp [step0, shut, upd, h]; done)
    | (have hz := hz trivial; obtain ⟨rfl, rfl, rfl, rfl, rfl, rfl⟩ := hz; simp [step0, shut, upd, h]; done)
    | (cases single <;> cases up <;> cases sy <;> simp_all [shut, step0, upd]; done)
    | (cases single <;> cases up <;> cases sy <;> simp_all [shut, step0, upd] <;> omega)
    | skip

set_option maxHeartbeats 4000000 in
theorem im1_all (H : Is o single K S n) (hi : i ≤ n) (hn80 : n ≤ 80) (hok : ∀ j, j < n → okOp (K j) (S j)) (hz0 : i ≠ 0) (hm1 : single = true ∨ (stAt single K S i).none = true) : AllL (im.env o u i) imL1 := by
  have hp := n_pos (single := single) (K := K) (S := S) i
  have hI : Inv single (stAt single K S i) i := inv i
  have hoi : i < n → 1 ≤ K i ∧ K i ≤ 4 := fun h => ⟨(hok i h).1, (hok i h).2.1⟩
  have f0 : o.fn 1000 0 = .i (ans single K S 0) := H.f1000 0
  have hz : i = 0 → (stAt single K S i).up = false ∧ (stAt single K S i).synced = false ∧ (stAt single K S i).count = 0 ∧ (stAt single K S i).has = (fun _ => false) ∧ (stAt single K S i).n = 0 ∧ (stAt single K S i).none = true := fun e => by subst e; exact ⟨rfl, rfl, rfl, rfl, rfl, rfl⟩
  clear hok
  all_goals simp only [imL1, allL_cons, allL_nil, and_true]
  all_goals and_intros
  all_goals intro h
  all_goals simp only [hold_cons_iff, hold_nil_iff, d_v, d_fn, dI_il, dI_add, dI_sub, dB_lt, dB_le, dB_ieq, dB_or, Bool.or_eq_true, LoopY.env, ir, if_true, if_false, Nat.reduceEqDiff, I_i, B_b, H.v0, H.v32, H.f32, H.f33, H.f1001, H.f1002, H.f1003, H.f1004, H.f1005, H.f1011, H.f1012, H.f1013, H.f1014, H.f1015, H.f1016, decide_eq_true_eq, decide_eq_false_iff_not, and_true] at h
  all_goals simp only [allT_cons, allT_nil, and_true]
  all_goals and_intros
  all_goals first | refine mp2_yes rfl H ?_ | refine mp2_no rfl H ?_ | refine mp2_may rfl H ?_ | refine mp2_new rfl H ?_ ?_ | simp only [ob_e, dB_lt, dB_le, dB_ieq, dB_or, Bool.or_eq_true, dB_beq, dB_bl, dB_not, dI_il, dI_add, dI_sub, d_v, d_fn, LoopY.env, ir, if_true, if_false, Nat.reduceEqDiff, I_i, B_b, H.v0, H.v32, H.f32, H.f33, f0, H.f1000, H.f1001, H.f1002, H.f1003, H.f1004, H.f1005, H.f1011, H.f1012, H.f1013, H.f1014, H.f1015, H.f1016, succ_cast, decide_eq_true_eq, decide_eq_false_iff_not, and_true, beq_iff_eq, ans, Bool.not_eq_true']
  all_goals try simp only [st_succ]
  all_goals generalize stAt single K S _ = s at *
  all_goals obtain ⟨up, sy, c, has, nn, no⟩ := s
  all_goals obtain ⟨h1, h2, h3, h4, h5⟩ := hI
  all_goals generalize K _ = k at *
  all_goals generalize S _ = w at *
  all_goals simp only at hp h hm1 h1 h2 h3 h4 h5 hz
  all_goals first
    | omega
    | (simp [step0, shut, upd, h]; done)
    | (have hz := hz trivial; obtain ⟨rfl, rfl, rfl, rfl, rfl, rfl⟩ := hz; simp [step0, shut, upd, h]; done)
    | (cases single <;> cases up <;> cases sy <;> simp_all [shut, step0, upd]; done)
    | (cases single <;> cases up <;> cases sy <;> simp_all [shut, step0, upd] <;> omega)
    | (cases single <;> cases up <;> cases sy <;> simp_all [shut, step0, upd]; done)
    | (cases single <;> cases up <;> cases sy <;> simp_all [shut, step0, upd] <;> omega)
    | skip

set_option maxHeartbeats 4000000 in
theorem im2_all (H : Is o single K S n) (hi : i ≤ n) (hn80 : n ≤ 80) (hok : ∀ j, j < n → okOp (K j) (S j)) (hz0 : i ≠ 0) (hm2 : single = false) : AllL (im.env o u i) imL2 := by
  have hp := n_pos (single := single) (K := K) (S := S) i
  have hI : Inv single (stAt single K S i) i := inv i
  have hoi : i < n → 1 ≤ K i ∧ K i ≤ 4 := fun h => ⟨(hok i h).1, (hok i h).2.1⟩
  have f0 : o.fn 1000 0 = .i (ans single K S 0) := H.f1000 0
  have hz : i = 0 → (stAt single K S i).up = false ∧ (stAt single K S i).synced = false ∧ (stAt single K S i).count = 0 ∧ (stAt single K S i).has = (fun _ => false) ∧ (stAt single K S i).n = 0 ∧ (stAt single K S i).none = true := fun e => by subst e; exact ⟨rfl, rfl, rfl, rfl, rfl, rfl⟩
  clear hok
  all_goals simp only [imL2, allL_cons, allL_nil, and_true]
  all_goals and_intros
  all_goals intro h
  all_goals simp only [hold_cons_iff, hold_nil_iff, d_v, d_fn, dI_il, dI_add, dI_sub, dB_lt, dB_le, dB_ieq, dB_or, Bool.or_eq_true, LoopY.env, ir, if_true, if_false, Nat.reduceEqDiff, I_i, B_b, H.v0, H.v32, H.f32, H.f33, H.f1001, H.f1002, H.f1003, H.f1004, H.f1005, H.f1011, H.f1012, H.f1013, H.f1014, H.f1015, H.f1016, decide_eq_true_eq, decide_eq_false_iff_not, and_true] at h
  all_goals simp only [allT_cons, allT_nil, and_true]
  all_goals and_intros
  all_goals first | refine mp2_yes rfl H ?_ | refine mp2_no rfl H ?_ | refine mp2_may rfl H ?_ | refine mp2_new rfl H ?_ ?_ | simp only [ob_e, dB_lt, dB_le, dB_ieq, dB_or, Bool.or_eq_true, dB_beq, dB_bl, dB_not, dI_il, dI_add, dI_sub, d_v, d_fn, LoopY.env, ir, if_true, if_false, Nat.reduceEqDiff, I_i, B_b, H.v0, H.v32, H.f32, H.f33, f0, H.f1000, H.f1001, H.f1002, H.f1003, H.f1004, H.f1005, H.f1011, H.f1012, H.f1013, H.f1014, H.f1015, H.f1016, succ_cast, decide_eq_true_eq, decide_eq_false_iff_not, and_true, beq_iff_eq, ans, Bool.not_eq_true']
  all_goals try simp only [st_succ]
  all_goals generalize stAt single K S _ = s at *
  all_goals obtain ⟨up, sy, c, has, nn, no⟩ := s
  all_goals obtain ⟨h1, h2, h3, h4, h5⟩ := hI
  all_goals generalize K _ = k at *
  all_goals generalize S _ = w at *
  all_goals simp only at hp h h1 h2 h3 h4 h5 hz
  all_goals first
    | omega
    | (simp [step0, shut, upd, h]; done)
    | (have hz := hz trivial; obtain ⟨rfl, rfl, rfl, rfl, rfl, rfl⟩ := hz; simp [step0, shut, upd, h]; done)
    | (cases single <;> cases up <;> cases sy <;> simp_all [shut, step0, upd]; done)
    | (cases single <;> cases up <;> cases sy <;> simp_all [shut, step0, upd] <;> omega)
    | skip
end
end Go.Proofs.Ytgopjdknmjjheaa.sxTracker
