/-
  THE LAW FnRetry (proved): over every history of errors, questions and times, the package's retry with a deadline answers as the model does. No conditions beside the law's own guards.
-/
import Derived.Test.YtagpchabkplggaaSxR1RetryC
namespace Go.Proofs.Ytagpchabkplggaa.sxRetry
open Go.Sx Go.RowKit
set_option linter.unusedVariables false
set_option linter.unusedSimpArgs false
set_option maxRecDepth 100000

/-! ### the law -/
def ks : List PK := [.int .i64, .int .i64, .rows 2 [.int .i64, .int .i64]]
def fs0 : Facts := [(.o2 .ieq (.v 2000) (.il 0), true), (.o2 .ieq (.fn 1001 (.v 2000)) (.il 0), true), (.o2 .ieq (.fn 1002 (.v 2000)) (.il 0), true), (.o2 .ieq (.fn 1003 (.v 2000)) (.il 0), true),
  (.fn 1004 (.v 2000), false), (.o2 .ieq (.fn 1005 (.v 2000)) (.il 0), true), (.o2 .ieq (.fn 1006 (.v 2000)) (.il 0), true)]
def okLeaf (q : Leaf) : Bool :=
  (match q.r with | .bool (.bl true) => true | _ => false) && q.vcs.isEmpty
theorem law_paths : (match explore Try.prog ctr.x 200 (.fn false 4 (symArgs ks 0)) (symHeap ks 0) ks.length 60 (fs0 ++ symFacts ks 0) with | .ok l => l.all okLeaf | .error _ => false) = true := by kernel_rfl

/-- The families that are no inputs. -/
def ex (most reset : Int) (K N : Nat → Int) (n : Nat) : Env where
  v c := if c = 3000 then .b (decide (stop (badAt K N) n < n)) else if c = 3001 then .i (stop (badAt K N) n) else .i 0
  fn c i := if c = 1000 then .b (ans most reset K N i.toNat) else if c = 1001 then .i (stAt most reset K N i.toNat).now else if c = 1002 then .i (stAt most reset K N i.toNat).first else if c = 1003 then .i (stAt most reset K N i.toNat).last
    else if c = 1004 then .b (stAt most reset K N i.toNat).any else if c = 1005 then .i (stAt most reset K N i.toNat).fi else .i (stAt most reset K N i.toNat).la
  val _ _ := .nilIface
  mp _ _ _ := none
  ab _ _ _ _ _ _ := True

theorem is_ok (W : World) (most reset : Int) (A : Option Addr) (len cap : Nat) : ∃ K N, Is (envOf W ks [.int .i64 most, .int .i64 reset, .slice A len cap] (ex most reset K N len)) most reset K N len := by
  refine ⟨fun j => (envF W ks [.int .i64 most, .int .i64 reset, .slice A len cap] (fun _ _ => .i 0) 64 j).I, fun j => (envF W ks [.int .i64 most, .int .i64 reset, .slice A len cap] (fun _ _ => .i 0) 65 j).I, ?_⟩
  generalize hK : (fun j : Nat => (envF W ks [.int .i64 most, .int .i64 reset, .slice A len cap] (fun _ _ => .i 0) 64 j).I) = K
  generalize hN : (fun j : Nat => (envF W ks [.int .i64 most, .int .i64 reset, .slice A len cap] (fun _ _ => .i 0) 65 j).I) = N
  exact ⟨rfl, rfl, rfl, rfl, rfl, rfl, fun j => by rw [← hK]; cases A <;> rfl, fun j => by rw [← hN]; cases A <;> rfl, fun j => rfl, fun j => rfl, fun j => rfl, fun j => rfl, fun j => rfl, fun j => rfl, fun j => rfl⟩

theorem walk (W : World) (vs : List Value) (hl : vs.length = ks.length) (hall : ∀ (i : Nat) (p : PK) (v : Value), ks[i]? = some p → vs[i]? = some v → p.holds W v) :
    Calls Try.prog 4 vs.toArray W fun e W' => e = .returned (.bool true) ∧ Below W.heap.size W W' := by
  cases he : explore Try.prog ctr.x 200 (.fn false 4 (symArgs ks 0)) (symHeap ks 0) ks.length 60 (fs0 ++ symFacts ks 0) with
  | error e => have := law_paths; rw [he] at this; cases this
  | ok l =>
    have hok := law_paths
    rw [he] at hok
    have hok : l.all okLeaf = true := hok
    obtain ⟨a, b, c, rfl⟩ : ∃ a b c, vs = [a, b, c] := by
      match vs, hl with
      | [a, b, c], _ => exact ⟨a, b, c, rfl⟩
    obtain ⟨most, rfl, _⟩ := hall 0 _ a rfl rfl
    obtain ⟨reset, rfl, _⟩ := hall 1 _ b rfl rfl
    obtain ⟨A, len, cap, rfl, _⟩ := hall 2 _ c rfl rfl
    obtain ⟨K, N, H⟩ := is_ok W most reset A len cap
    refine law_main plain mixed (by decide) he hl hall ?_ (ctr_ok H _) ?_
    · simp only [fs0, hold_cons_iff, hold_nil_iff, dB_ieq, dI_il, d_v, d_fn, H.v2000, I_i, decide_eq_true_eq, and_true]
      have e0 : (0 : Int) = ((0 : Nat) : Int) := rfl
      rw [e0, H.f1001, H.f1002, H.f1003, H.f1004, H.f1005, H.f1006]
      exact ⟨trivial, rfl, rfl, rfl, rfl, rfl, rfl⟩
    · intro q hq hqf
      have hql := List.all_eq_true.1 hok q hq
      unfold okLeaf at hql
      rw [Bool.and_eq_true] at hql
      have hv : q.vcs = [] := by simpa using hql.2
      refine ⟨fun e he => (by rw [hv] at he; cases he), .bl true, ?_, rfl⟩
      have := hql.1
      split at this
      · rename_i hr; exact hr
      · cases this

theorem own : ownKnob Try.prog.godebug = none := by kernel_rfl
theorem laid : laidOutB Try.prog = true := by kernel_rfl

theorem contract (H : Type) (enc : TypeId × Value → H) (W : World) (base : Nat) (args : Array Value) (ds gs : List (DataW H)) (before : List MemPlace)
    (hval : ∀ (j : Nat) t v, Try.f4.params[j]? = some t → args[j]? = some v → Value.okWide Try.prog W .any base t v)
    (hW : DataW.Whole enc Try.prog Try.f4.params.toList Rows.fnRetrySpec.vars false W args.toList ds gs before) :
    Calls Try.prog 4 args W fun e W' => ∃ v, e = .returned v ∧ Rows.fnRetrySpec.post enc Try.prog Try.f4 false true false false W args v W' :=
  law_contract laid (ks := ks) (tb := 4) (by kernel_rfl) (by kernel_rfl) (by kernel_rfl) (by kernel_rfl) rfl
    (fun ds hd => by
      match ds, hd with
      | [d, e, f], _ => rfl) (walk W) hval hW

theorem lifted (os : Os) (started : os.Started) (H : Type) (enc : TypeId × Value → H) :
    ReturnsInHanded {} Try.checked os 4 .any (Rows.fnRetrySpec.pre6 enc Try.prog Try.f4 Rows.fnRetryRow.domain false) (Rows.fnRetrySpec.post enc Try.prog Try.f4 false true false false) := by
  refine returnsInHanded_of_change (C := Try.checked) (s := Rows.fnRetrySpec) own started (by kernel_rfl) Try.func4
    (ChangeSpec.witness6 (enc := enc) (C := Try.checked) false ⟨#[], #[.int .i64 0, .int .i64 0, .slice none 0 0], []⟩ 8 (by kernel_rfl) (by kernel_rfl) (by kernel_rfl) (by kernel_rfl)) ?_
  intro W base args ds gs before hval hW _ _
  exact contract H enc W base args ds gs before hval hW

theorem proved : Rows.FnRetrySaid :=
  OpenClaim.holds_of_wide 4 Try.f4 rfl rfl rfl rfl rfl rfl rfl ⟨rfl, rfl, rfl, rfl, rfl⟩ rfl rfl rfl rfl rfl (by kernel_rfl) Try.func4 (by kernel_rfl)
    (of_decide_eq_true (by kernel_rfl)) (by unfold Func.isWrapper; first | (rw [if_pos (by decide +kernel)]; kernel_rfl) | (rw [if_neg (by decide +kernel)]; exact ⟨rfl, rfl⟩))
    (fun os started H enc _ => lifted os started H enc)

end Go.Proofs.Ytagpchabkplggaa.sxRetry
#print axioms Go.Proofs.Ytagpchabkplggaa.sxRetry.proved
