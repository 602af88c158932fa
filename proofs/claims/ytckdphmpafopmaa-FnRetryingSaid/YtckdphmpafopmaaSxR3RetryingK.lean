/-
  THE LAW FnRetrying (proved): over every history of steps, what a watcher that retries sends, where it asks again, how long it waits, and whether it is done, is the model's. No conditions beside the law's own guards.
-/
import Derived.Test.YtckdphmpafopmaaSxR3RetryingJ
import Derived.Test.YtckdphmpafopmaaSxWalk
namespace Go.Proofs.Ytckdphmpafopmaa.sxRetrying
open Go.Sx Go.RowKit
set_option linter.unusedVariables false
set_option linter.unusedSimpArgs false
set_option maxRecDepth 100000

/-! ### the law -/
def ks : List PK := [.str, .dsl stepK]
theorem rt_obl : lawObl Try.prog c10.x 4 ks 80 = some rtL := by kernel_rfl
theorem bad_false {d : Dv} (h : anyB (B9 d) d.T.length = false) {rv : ByteArray} : okAns (answers rv d.T) = true := ok_answers fun j hj => good_steps h hj
theorem okAns_nil : okAns (.i 0) = true := rfl
theorem plain_of_fits {d : Dv} (h : (DK.sl stepK).fits d) : plainTy d = true := by
  simp only [DK.fits] at h
  unfold plainTy
  rw [Bool.not_eq_true']
  refine anyB_of fun i hi => ?_
  obtain ⟨e, h1, h2⟩ := DKs.fits_get (k := .int .i64) (j := 1) (h.2.2 i hi) rfl
  simp only [DK.fits] at h2
  have : cc (row d i) 1 = e := by show (((d.T[i]?).getD [])[1]?).getD (.i 0) = e; rw [h1]; rfl
  rw [this, h2.1]; rfl
theorem rt_all {o : Env} (hu : o.uf = UF) (hw : plainTy (o.v 32) = true) : AllL o rtL := by
  have hl : (answers (o.v 0).S (o.v 32).T).T.length = (o.v 32).T.length := len_answers
  have hb := @bad_false (o.v 32)
  simp only [rtL, allL_cons, allL_nil, and_true]
  and_intros
  all_goals intro h
  all_goals simp only [hold_cons_iff, hold_nil_iff, allT_cons, allT_nil, ob_e, ob_t, dB_lt, dB_le, dB_ieq, dB_seq, dB_not, dB_beq, dB_bl, dS_sl, dI_il, dI_size, dI_tlen, d_v, d_uf, d_cel, d_il, d_bl, d_sl, hu, UF_3, UF_9, UF_20, UF_21, UF_22, UF_23, UF_30, UF_65, UF_66, hw, ar_0, ar_1, ar_2, I_i, B_b, S_s, Int.toNat_zero, stAt, opAt, hl, okAns_nil, decide_eq_true_eq, decide_eq_false_iff_not, and_true, Bool.not_eq_true'] at h ⊢
  all_goals simp_all

theorem own : ownKnob Try.prog.godebug = none := by kernel_rfl
theorem laid : laidOutB Try.prog = true := by kernel_rfl
theorem rt_contract (H : Type) (enc : TypeId × Value → H) (W : World) (base : Nat) (args : Array Value) (ds gs : List (DataW H)) (before : List MemPlace)
    (hval : ∀ (j : Nat) t v, Try.f4.params[j]? = some t → args[j]? = some v → Value.okWide Try.prog W .any base t v)
    (hW : DataW.Whole enc Try.prog Try.f4.params.toList Rows.fnRetryingSpec.vars false W args.toList ds gs before) :
    Calls Try.prog 4 args W fun e W' => ∃ v, e = .returned v ∧ Rows.fnRetryingSpec.post enc Try.prog Try.f4 false true false false W args v W' :=
  law_contract laid (ks := ks) (tb := 4) (by kernel_rfl) (by kernel_rfl) (by kernel_rfl) (by kernel_rfl) rfl
    (fun ds hd => by
      match ds, hd with
      | [d, e], _ => rfl) (fun vs hl hall => law_walkF plain mixed (by decide) rt_obl (fun o A hu => c10_ok hu A) (fun o hu hf => rt_all hu (plain_of_fits (hf 1 stepK rfl))) W vs hl hall) hval hW

theorem rt_lifted (os : Os) (started : os.Started) (H : Type) (enc : TypeId × Value → H) :
    ReturnsInHanded {} Try.checked os 4 .any (Rows.fnRetryingSpec.pre6 enc Try.prog Try.f4 Rows.fnRetryingRow.domain false) (Rows.fnRetryingSpec.post enc Try.prog Try.f4 false true false false) := by
  refine returnsInHanded_of_change (C := Try.checked) (s := Rows.fnRetryingSpec) own started (by kernel_rfl) Try.func4
    (ChangeSpec.witness6 (enc := enc) (C := Try.checked) false ⟨#[], #[.string ⟨#[]⟩, .slice none 0 0], []⟩ 8 (by kernel_rfl) (by kernel_rfl) (by kernel_rfl) (by kernel_rfl)) ?_
  intro W base args ds gs before hval hW _ _
  exact rt_contract H enc W base args ds gs before hval hW

theorem rtProved : Rows.FnRetryingSaid :=
  OpenClaim.holds_of_wide 4 Try.f4 rfl rfl rfl rfl rfl rfl rfl ⟨rfl, rfl, rfl, rfl, rfl⟩ rfl rfl rfl rfl rfl (by kernel_rfl) Try.func4 (by kernel_rfl)
    (of_decide_eq_true (by kernel_rfl)) (by unfold Func.isWrapper; first | (rw [if_pos (by decide +kernel)]; kernel_rfl) | (rw [if_neg (by decide +kernel)]; exact ⟨rfl, rfl⟩))
    (fun os started H enc _ => rt_lifted os started H enc)

end Go.Proofs.Ytckdphmpafopmaa.sxRetrying
#print axioms Go.Proofs.Ytckdphmpafopmaa.sxRetrying.rtProved
