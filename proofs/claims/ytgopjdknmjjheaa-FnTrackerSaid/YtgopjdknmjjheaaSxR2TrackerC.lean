/-
  THE LAW FnTracker: the rounds of spec.Tracker answer as the model does.
-/
import Derived.Test.YtgopjdknmjjheaaSxR2TrackerB
namespace Go.Proofs.Ytgopjdknmjjheaa.sxTracker
open Go.Sx Go.RowKit
set_option linter.unusedVariables false
set_option linter.unusedSimpArgs false
set_option maxRecDepth 100000
section
variable {o : Env} {single : Bool} {K : Nat → Int} {S : Nat → ByteArray} {n i : Nat} {u : Nat → Value}
theorem sp_all (H : Is o single K S n) (hi : i ≤ n) (hn80 : n ≤ 80) (hok : ∀ j, j < n → okOp (K j) (S j)) (μ : Nat) (hμ : μ = 0 ↔ i = 0) : AllL (sp.env o u i) (match μ with | 0 => spL0 | _ => spL1) := by
  have hI : Inv single (stAt single K S i) i := inv i
  have hoi : i < n → 1 ≤ K i ∧ K i ≤ 4 := fun h => ⟨(hok i h).1, (hok i h).2.1⟩
  have f0 : o.fn 1000 0 = .i (ans single K S 0) := H.f1000 0
  have hz : i = 0 → (stAt single K S i).up = false ∧ (stAt single K S i).synced = false ∧ (stAt single K S i).count = 0 ∧ (stAt single K S i).has = (fun _ => false) ∧ (stAt single K S i).n = 0 ∧ (stAt single K S i).none = true := fun e => by subst e; exact ⟨rfl, rfl, rfl, rfl, rfl, rfl⟩
  clear hok
  rcases μ with _ | μ
  all_goals simp only [spL0, spL1, allL_cons, allL_nil, and_true]
  all_goals and_intros
  all_goals intro h
  all_goals simp only [hold_cons_iff, hold_nil_iff, d_v, d_fn, dI_il, dI_add, dI_sub, dB_lt, dB_le, dB_ieq, LoopY.env, sr, if_true, if_false, Nat.reduceEqDiff, I_i, B_b, H.v0, H.v32, H.f32, H.f33, H.f1001, H.f1002, H.f1003, H.f1004, H.f1005, decide_eq_true_eq, decide_eq_false_iff_not, and_true] at h
  all_goals simp only [allT_cons, allT_nil, and_true]
  all_goals first | (have hi0 : i = 0 := hμ.1 rfl; subst hi0; clear hμ) | (have hi0 : i ≠ 0 := fun e => absurd (hμ.2 e) (by omega); clear hμ)
  all_goals and_intros
  all_goals first | refine mp1_yes rfl H ?_ | refine mp1_no rfl H ?_ | refine mp1_may rfl H ?_ | simp only [ob_e, dB_lt, dB_le, dB_ieq, dB_beq, dB_bl, dB_not, dI_il, dI_add, dI_sub, d_v, d_fn, LoopY.env, sr, if_true, if_false, Nat.reduceEqDiff, I_i, B_b, H.v0, H.v32, H.f32, H.f33, f0, H.f1000, H.f1001, H.f1002, H.f1003, H.f1004, H.f1005, succ_cast, decide_eq_true_eq, decide_eq_false_iff_not, and_true, beq_iff_eq, ans, Bool.not_eq_true']
  all_goals try simp only [st_succ]
  all_goals generalize stAt single K S _ = s at *
  all_goals obtain ⟨up, sy, c, has, nn, no⟩ := s
  all_goals obtain ⟨h1, h2, h3, h4, h5⟩ := hI
  all_goals generalize K _ = k at *
  all_goals generalize S _ = w at *
  all_goals simp only at h h1 h2 h3 h4 h5 hz
  all_goals first
    | omega
    | (simp [step0, shut, upd, h]; done)
    | (have hz := hz trivial; obtain ⟨rfl, rfl, rfl, rfl, rfl, rfl⟩ := hz; simp [step0, shut, upd, h]; done)
    | (cases single <;> cases up <;> cases sy <;> simp_all [shut, step0, upd]; done)
    | (cases single <;> cases up <;> cases sy <;> simp_all [shut, step0, upd]; omega)
end
end Go.Proofs.Ytgopjdknmjjheaa.sxTracker
