/-
  SX, PART 31: a law's paths, where it matters that its arguments are data of their kinds.
-/
import Derived.Test.YtckdphmpafopmaaSxGuard
namespace Go.Sx
open Go.RowKit
set_option linter.unusedVariables false

theorem law_walkF {P : Program} (hP : Plain P) (hM : P.follows .mixedOrders = true) {f : FuncId} {KS : List PK} (hsm : KS.all PK.small = true) {X : XCtr} {n : Nat} {L : List (Facts × List Ob)} (hob : lawObl P X f KS n = some L) {U : Nat → Dv → Dv}
    (hX : ∀ (o : Env) (A : Anchor), o.uf = U → ExtOk P o A (X.toExt P)) (hL : ∀ o : Env, o.uf = U → (∀ (i : Nat) (ks : DKs), KS[i]? = some (.dsl ks) → (DK.sl ks).fits (o.v (32 * i))) → AllL o L) (W : World) (VS : List Value) (hl : VS.length = KS.length)
    (hall : ∀ (i : Nat) (p : PK) (v : Value), KS[i]? = some p → VS[i]? = some v → p.holds W v) : Calls P f VS.toArray W fun e W' => e = .returned (.bool true) ∧ Below W.heap.size W W' := by
  unfold lawObl at hob
  cases he : explore P X 400 (.fn false f (symArgs KS 0)) (symHeap KS 0) KS.length n (symFacts KS 0) with
  | error e => rw [he] at hob; cases hob
  | ok l =>
    rw [he] at hob
    simp only [Option.some.injEq] at hob
    have he' : explore P X 400 (.fn false f (symArgs KS 0)) (symHeap KS 0) KS.length n ([] ++ symFacts KS 0) = .ok l := he
    refine law_main hP hM hsm (x := pureEnv U) he' hl hall hold_nil (hX _ _ rfl) (law_good ?_)
    rw [hob]
    refine hL _ rfl fun i ks hk => ?_
    have hi : i < VS.length := by rw [hl]; exact (List.getElem?_eq_some_iff.1 hk).1
    have hv : VS[i]? = some VS[i] := List.getElem?_eq_getElem hi
    have hh := hall i _ _ hk hv
    have d := div32' i
    have : (envOf W KS VS (pureEnv U)).v (32 * i) = (DK.sl ks).rd W VS[i] := by
      show envV W KS VS _ (32 * i) = _
      simp only [envV, dvK, d.1, hv, hk]
    rw [this]
    exact DK.rd_fits hh
end Go.Sx
