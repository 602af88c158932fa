/-
  THE LAW FnRetryingEnds (proved): once it has said that it is done, a watcher does nothing more; it is done just behind what the law names. No conditions beside the law's own guards.
-/
import Derived.Test.YtckdphmpafopmaaSxR3RetryingF
namespace Go.Proofs.Ytckdphmpafopmaa.sxRetrying
open Go.Sx Go.RowKit
set_option linter.unusedVariables false
set_option linter.unusedSimpArgs false
set_option maxRecDepth 100000

/-! ### the law -/
def ks : List PK := [.str, .dsl stepK]
def endsL : List (Facts × List Ob) :=
  [([((.o2 .lt (.il 2147483647) (.o1 .size (.v 0))), true), ((.o2 .le (.o1 .tlen (.v 32)) (.il 9223372036854775807)), true)],
    [.e (.bl true)]),
   ([((.o2 .lt (.il 2147483647) (.o1 .tlen (.v 32))), true), ((.o2 .lt (.il 2147483647) (.o1 .size (.v 0))), false), ((.o2 .le (.o1 .tlen (.v 32)) (.il 9223372036854775807)), true)],
    [.e (.bl true)]),
   ([((.uf 3 (.o2 .cel (.v 32) (.il 0))), true), ((.o2 .lt (.il 2147483647) (.o1 .tlen (.v 32))), false), ((.o2 .lt (.il 2147483647) (.o1 .size (.v 0))), false), ((.o2 .le (.o1 .tlen (.v 32)) (.il 9223372036854775807)), true)],
    [.e (.bl true)]),
   ([((.o2 .seq (.v 0) (.sl [])), true), ((.uf 3 (.o2 .cel (.v 32) (.il 0))), false), ((.o2 .lt (.il 2147483647) (.o1 .tlen (.v 32))), false), ((.o2 .lt (.il 2147483647) (.o1 .size (.v 0))), false), ((.o2 .le (.o1 .tlen (.v 32)) (.il 9223372036854775807)), true)],
    [.e (.bl true)]),
   ([((.o2 .seq (.v 0) (.sl [48])), true), ((.o2 .seq (.v 0) (.sl [])), false), ((.uf 3 (.o2 .cel (.v 32) (.il 0))), false), ((.o2 .lt (.il 2147483647) (.o1 .tlen (.v 32))), false), ((.o2 .lt (.il 2147483647) (.o1 .size (.v 0))), false), ((.o2 .le (.o1 .tlen (.v 32)) (.il 9223372036854775807)), true)],
    [.e (.bl true)]),
   ([((.o2 .lt (.il 20) (.o1 .size (.v 0))), true), ((.o2 .seq (.v 0) (.sl [48])), false), ((.o2 .seq (.v 0) (.sl [])), false), ((.uf 3 (.o2 .cel (.v 32) (.il 0))), false), ((.o2 .lt (.il 2147483647) (.o1 .tlen (.v 32))), false), ((.o2 .lt (.il 2147483647) (.o1 .size (.v 0))), false), ((.o2 .le (.o1 .tlen (.v 32)) (.il 9223372036854775807)), true)],
    [.e (.bl true)]),
   ([((.uf 9 (.o2 .cel (.v 32) (.il 0))), true), ((.o2 .lt (.il 20) (.o1 .size (.v 0))), false), ((.o2 .seq (.v 0) (.sl [48])), false), ((.o2 .seq (.v 0) (.sl [])), false), ((.uf 3 (.o2 .cel (.v 32) (.il 0))), false), ((.o2 .lt (.il 2147483647) (.o1 .tlen (.v 32))), false), ((.o2 .lt (.il 2147483647) (.o1 .size (.v 0))), false), ((.o2 .le (.o1 .tlen (.v 32)) (.il 9223372036854775807)), true)],
    [.e (.bl true)]),
   ([((.o2 .ieq (.o1 .tlen (.uf 30 (.o2 .cel (.v 0) (.o2 .cel (.v 32) (.il 0))))) (.o1 .tlen (.v 32))), true), ((.o2 .le (.o1 .tlen (.v 32)) (.il 80)), true), ((.uf 9 (.o2 .cel (.v 32) (.il 0))), false), ((.o2 .lt (.il 20) (.o1 .size (.v 0))), false), ((.o2 .seq (.v 0) (.sl [48])), false), ((.o2 .seq (.v 0) (.sl [])), false), ((.uf 3 (.o2 .cel (.v 32) (.il 0))), false), ((.o2 .lt (.il 2147483647) (.o1 .tlen (.v 32))), false), ((.o2 .lt (.il 2147483647) (.o1 .size (.v 0))), false), ((.o2 .le (.o1 .tlen (.v 32)) (.il 9223372036854775807)), true)],
    [.e (.bl true), .e (.o2 .beq (.bl false) (.uf 23 (.o2 .cel (.v 0) (.o2 .cel (.v 32) (.o2 .cel (.il 0) (.il 0)))))), .e (.o2 .beq (.bl false) (.uf 22 (.o2 .cel (.v 0) (.o2 .cel (.v 32) (.o2 .cel (.il 0) (.il 0)))))), .e (.o2 .seq (.v 0) (.uf 20 (.o2 .cel (.v 0) (.o2 .cel (.v 32) (.o2 .cel (.il 0) (.il 0)))))), .e (.o2 .beq (.bl false) (.uf 22 (.o2 .cel (.v 0) (.o2 .cel (.v 32) (.o2 .cel (.il 0) (.il 0)))))), .e (.o2 .beq (.bl false) (.uf 21 (.o2 .cel (.v 0) (.o2 .cel (.v 32) (.o2 .cel (.il 0) (.il 0))))))]),
   ([((.o2 .ieq (.o1 .tlen (.uf 30 (.o2 .cel (.v 0) (.o2 .cel (.v 32) (.il 0))))) (.o1 .tlen (.v 32))), false), ((.o2 .le (.o1 .tlen (.v 32)) (.il 80)), true), ((.uf 9 (.o2 .cel (.v 32) (.il 0))), false), ((.o2 .lt (.il 20) (.o1 .size (.v 0))), false), ((.o2 .seq (.v 0) (.sl [48])), false), ((.o2 .seq (.v 0) (.sl [])), false), ((.uf 3 (.o2 .cel (.v 32) (.il 0))), false), ((.o2 .lt (.il 2147483647) (.o1 .tlen (.v 32))), false), ((.o2 .lt (.il 2147483647) (.o1 .size (.v 0))), false), ((.o2 .le (.o1 .tlen (.v 32)) (.il 9223372036854775807)), true)],
    [.e (.bl false), .e (.o2 .seq (.v 0) (.uf 20 (.o2 .cel (.v 0) (.o2 .cel (.v 32) (.o2 .cel (.il 0) (.il 0)))))), .e (.o2 .beq (.bl false) (.uf 22 (.o2 .cel (.v 0) (.o2 .cel (.v 32) (.o2 .cel (.il 0) (.il 0)))))), .e (.o2 .beq (.bl false) (.uf 21 (.o2 .cel (.v 0) (.o2 .cel (.v 32) (.o2 .cel (.il 0) (.il 0))))))]),
   ([((.o2 .le (.o1 .tlen (.v 32)) (.il 80)), false), ((.uf 9 (.o2 .cel (.v 32) (.il 0))), false), ((.o2 .lt (.il 20) (.o1 .size (.v 0))), false), ((.o2 .seq (.v 0) (.sl [48])), false), ((.o2 .seq (.v 0) (.sl [])), false), ((.uf 3 (.o2 .cel (.v 32) (.il 0))), false), ((.o2 .lt (.il 2147483647) (.o1 .tlen (.v 32))), false), ((.o2 .lt (.il 2147483647) (.o1 .size (.v 0))), false), ((.o2 .le (.o1 .tlen (.v 32)) (.il 9223372036854775807)), true)],
    [.e (.bl true)])]

theorem ends_obl : lawObl Try.prog c6.x 3 ks 80 = some endsL := by kernel_rfl
theorem ends_all {o : Env} (hu : o.uf = UF) : AllL o endsL := by
  have hl : (answers (o.v 0).S (o.v 32).T).T.length = (o.v 32).T.length := len_answers
  simp only [endsL, allL_cons, allL_nil, and_true]
  and_intros
  all_goals intro h
  all_goals simp only [hold_cons_iff, hold_nil_iff, allT_cons, allT_nil, ob_e, ob_t, dB_lt, dB_le, dB_ieq, dB_seq, dB_not, dB_beq, dB_bl, dS_sl, dI_il, dI_size, dI_tlen, d_v, d_uf, d_cel, d_il, d_bl, d_sl, hu, UF_3, UF_9, UF_20, UF_21, UF_22, UF_23, UF_30, ar_0, ar_1, ar_2, I_i, B_b, S_s, Int.toNat_zero, stAt, opAt, hl, decide_eq_true_eq, decide_eq_false_iff_not, and_true, Bool.not_eq_true'] at h ⊢
  all_goals simp_all

theorem own : ownKnob Try.prog.godebug = none := by kernel_rfl
theorem laid : laidOutB Try.prog = true := by kernel_rfl
theorem ends_contract (H : Type) (enc : TypeId × Value → H) (W : World) (base : Nat) (args : Array Value) (ds gs : List (DataW H)) (before : List MemPlace)
    (hval : ∀ (j : Nat) t v, Try.f3.params[j]? = some t → args[j]? = some v → Value.okWide Try.prog W .any base t v)
    (hW : DataW.Whole enc Try.prog Try.f3.params.toList Rows.fnRetryingEndsSpec.vars false W args.toList ds gs before) :
    Calls Try.prog 3 args W fun e W' => ∃ v, e = .returned v ∧ Rows.fnRetryingEndsSpec.post enc Try.prog Try.f3 false true false false W args v W' :=
  law_contract laid (ks := ks) (tb := 4) (by kernel_rfl) (by kernel_rfl) (by kernel_rfl) (by kernel_rfl) rfl
    (fun ds hd => by
      match ds, hd with
      | [d, e], _ => rfl) (fun vs hl hall => law_walk plain mixed (by decide) ends_obl (fun o A hu => c6_ok hu A) (fun o hu => ends_all hu) W vs hl hall) hval hW

theorem ends_lifted (os : Os) (started : os.Started) (H : Type) (enc : TypeId × Value → H) :
    ReturnsInHanded {} Try.checked os 3 .any (Rows.fnRetryingEndsSpec.pre6 enc Try.prog Try.f3 Rows.fnRetryingEndsRow.domain false) (Rows.fnRetryingEndsSpec.post enc Try.prog Try.f3 false true false false) := by
  refine returnsInHanded_of_change (C := Try.checked) (s := Rows.fnRetryingEndsSpec) own started (by kernel_rfl) Try.func3
    (ChangeSpec.witness6 (enc := enc) (C := Try.checked) false ⟨#[], #[.string ⟨#[]⟩, .slice none 0 0], []⟩ 8 (by kernel_rfl) (by kernel_rfl) (by kernel_rfl) (by kernel_rfl)) ?_
  intro W base args ds gs before hval hW _ _
  exact ends_contract H enc W base args ds gs before hval hW

theorem endsProved : Rows.FnRetryingEndsSaid :=
  OpenClaim.holds_of_wide 3 Try.f3 rfl rfl rfl rfl rfl rfl rfl ⟨rfl, rfl, rfl, rfl, rfl⟩ rfl rfl rfl rfl rfl (by kernel_rfl) Try.func3 (by kernel_rfl)
    (of_decide_eq_true (by kernel_rfl)) (by unfold Func.isWrapper; first | (rw [if_pos (by decide +kernel)]; kernel_rfl) | (rw [if_neg (by decide +kernel)]; exact ⟨rfl, rfl⟩))
    (fun os started H enc _ => ends_lifted os started H enc)

end Go.Proofs.Ytckdphmpafopmaa.sxRetrying
#print axioms Go.Proofs.Ytckdphmpafopmaa.sxRetrying.endsProved
