/-
  SX, PART 19: a law's call, from its paths to its row.
-/
import Derived.Test.YtckdphmpafopmaaSxLoop
namespace Go.Sx
open Go.RowKit
set_option linter.unusedVariables false
set_option linter.unusedSimpArgs false

theorem plain_of {P : Program} (h : P.funcs.toList.all (fun fn => !(fn.body.isSome && fn.name == "runtime.NumGoroutine")) = true) : Plain P := by
  intro f fn hf hb
  have := List.all_eq_true.1 h fn (by rw [← Array.getElem?_toList] at hf; exact List.mem_of_getElem? hf)
  rw [hb] at this
  simpa using this

section
variable {W : World} {KS : List PK} {VS : List Value} {x : Env}

theorem hold_append {env : Env} {a b : Facts} (h : a.Hold env) (k : b.Hold env) : Facts.Hold env (a ++ b) := fun e t hm => by
  rcases List.mem_append.1 hm with h1 | h1
  · exact h e t h1
  · exact k e t h1
theorem hold_nil {env : Env} : Facts.Hold env [] := fun e t hm => by cases hm

theorem int_facts {env : Env} {k : IntKind} {c : Nat} {n : Int} (h : env.v c = .i n) (h1 : minK k ≤ n) (h2 : n ≤ maxK k) : Facts.Hold env (CK.facts (.int k) c) := by
  have e : ((E.v c).den env).I = n := by simp only [E.den, h]; rfl
  refine Facts.hold_cons ?_ (Facts.hold_cons ?_ hold_nil)
  · rw [B_le, e]; exact decide_eq_true h1
  · rw [B_le, e]; exact decide_eq_true h2

theorem factsFrom_ok {env : Env} : ∀ {ks : List CK} {c : Nat}, (∀ (j : Nat) (k : CK), ks[j]? = some k → ∃ v, k.ok W v ∧ env.v (c + j) = k.rd W v) → Facts.Hold env (factsFrom ks c)
  | [], c, _ => hold_nil
  | k :: r, c, h => by
    refine hold_append ?_ (factsFrom_ok (fun j k' hj => ?_))
    · obtain ⟨v, hok, hv⟩ := h 0 k rfl
      cases k with
      | int k => obtain ⟨n, rfl, h1, h2⟩ := hok; exact int_facts hv h1 h2
      | _ => exact hold_nil
    · obtain ⟨v, hok, hv⟩ := h (j + 1) k' (by simpa using hj)
      exact ⟨v, hok, by rw [← hv]; congr 1; omega⟩

theorem symFact_ok {i : Nat} {p : PK} {v : Value} (hk : KS[i]? = some p) (hv : VS[i]? = some v) (hh : p.holds W v) (hs : p.small = true) : Facts.Hold (envOf W KS VS x) (symFact p i) := by
  have d := div32' i
  cases p with
  | int k =>
    obtain ⟨n, rfl, h1, h2⟩ := hh
    exact int_facts (n := n) (by simp only [envOf, envV, dvK, d.1, hv, hk]; rfl) h1 h2
  | struct ks =>
    obtain ⟨cs, rfl, hok⟩ := hh
    have hsm : ks.length ≤ 32 := Nat.le_of_ble_eq_true hs
    refine factsFrom_ok (W := W) (fun j k hj => ?_)
    obtain ⟨u, hu, huk⟩ := hok.2 j k hj
    have hjl : j < ks.length := (List.getElem?_eq_some_iff.1 hj).1
    have dd := div32 i j (by omega)
    have hu' : cs[j]? = some u := by simpa using hu
    have hck : ckAt KS (32 * i + j) = k := by unfold ckAt; rw [dd.1, dd.2, hk]; simp only [hj, Option.getD_some]
    exact ⟨u, huk, by simp only [envOf, envV, dvK, dd.1, dd.2, hv, hk, hu', hck, Option.getD_some]⟩
  | rows sz ks =>
    obtain ⟨A, len, cap, rfl, hle, hcap, hA, hks, hall⟩ := hh
    have e : ((E.v (32 * i)).den (envOf W KS VS x)).I = (len : Int) := by simp only [E.den, envOf, envV, dvK, d.1, hv, hk]; rfl
    have hm : maxLen ≤ 9223372036854775807 := by decide
    refine Facts.hold_cons ?_ (Facts.hold_cons ?_ hold_nil)
    · rw [B_le, e]; exact decide_eq_true (by show (0 : Int) ≤ _; omega)
    · rw [B_le, e]; exact decide_eq_true (by show (len : Int) ≤ 9223372036854775807; omega)
  | dsl ks =>
    have hm : maxLen ≤ 9223372036854775807 := by decide
    have hf := (DK.rd_fits hh : DK.fits (.sl ks) _)
    simp only [DK.fits] at hf
    have e : ((E.o1 .tlen (.v (32 * i))).den (envOf W KS VS x)).I = ((((DK.sl ks).rd W v).T.length : Nat) : Int) := by simp only [E.den, O1.den, envOf, envV, dvK, d.1, hv, hk]; rfl
    refine Facts.hold_cons ?_ hold_nil
    rw [B_le, e]
    exact decide_eq_true (by show _ ≤ (9223372036854775807 : Int); omega)
  | _ => exact hold_nil

theorem symFacts_ok (hsm : ∀ p ∈ KS, p.small = true) (hall : ∀ (i : Nat) (p : PK) (v : Value), KS[i]? = some p → VS[i]? = some v → p.holds W v) : ∀ (r : List PK) (i : Nat),
    (∀ k, KS[i + k]? = r[k]?) → (i + r.length = VS.length) → Facts.Hold (envOf W KS VS x) (symFacts r i)
  | [], i, _, _ => hold_nil
  | p :: r, i, h1, h2 => by
    have e1 : KS[i]? = some p := by have := h1 0; simpa using this
    have hi : i < VS.length := by simp at h2; omega
    have e2 : VS[i]? = some VS[i] := List.getElem?_eq_getElem hi
    refine hold_append (symFact_ok e1 e2 (hall i p _ e1 e2) (hsm p (List.mem_of_getElem? e1))) (symFacts_ok hsm hall r (i + 1) (fun k => ?_) (by simp at h2 ⊢; omega))
    have := h1 (k + 1); rw [← Nat.add_assoc] at this; simpa [Nat.add_right_comm] using this

/-- Every path of the law returns true. -/
theorem law_main {P : Program} (hP : Plain P) (hM : P.follows .mixedOrders = true) {f : FuncId} (hsm : KS.all PK.small = true) {X : XCtr} {fuel n : Nat} {fs : Facts} {l : List Leaf}
    (he : explore P X fuel (.fn false f (symArgs KS 0)) (symHeap KS 0) KS.length n (fs ++ symFacts KS 0) = .ok l)
    (hl : VS.length = KS.length) (hall : ∀ (i : Nat) (p : PK) (v : Value), KS[i]? = some p → VS[i]? = some v → p.holds W v) (hfs : fs.Hold (envOf W KS VS x))
    (hX : ExtOk P (envOf W KS VS x) (anchor W) (X.toExt P))
    (hgood : ∀ q ∈ l, q.fs.Hold (envOf W KS VS x) → (∀ e ∈ q.vcs, e.den (envOf W KS VS x)) ∧ ∃ e, q.r = .bool e ∧ (e.den (envOf W KS VS x)).B = true) :
    Calls P f VS.toArray W fun e W' => e = .returned (.bool true) ∧ Below W.heap.size W W' := by
  have hsm' : ∀ p ∈ KS, p.small = true := by simpa using hsm
  refine (calls_of_explore hP hM hX he (hold_append hfs (symFacts_ok hsm' hall KS 0 (fun k => by simp) (by simpa using hl.symm))) (fun q hq hf => (hgood q hq hf).1) (heap_ok hl.symm hsm' hall)
    (fun n p hn => by rw [← hl]; exact pmapOf_lt hn) (args_rels hsm' hall KS VS 0 (fun k => by simp) (fun k => by simp) hl.symm)).mono fun e W' hp => ?_
  obtain ⟨q, hq, hf, ρ', v, rfl, _, hs, _, hr⟩ := hp
  obtain ⟨_, e, hqr, hB⟩ := hgood q hq hf
  rw [hqr] at hr
  simp only [SV.Rel] at hr
  rw [hB] at hr
  subst hr
  exact ⟨rfl, hs.below.below⟩
end

section
open Go.ChangeShapes Go.WideShapes Go.ChangeAt
variable {H : Type} {enc : TypeId × Value → H} {P : Program}

theorem args_hold {W : World} {base : Nat} {ps : List MemPlace} : ∀ {ts : List TypeId} {vs : List Value} {ds : List (DataW H)} {ks : List PK} {ps : List MemPlace}, ts.mapM (PK.of P) = some ks →
    (∀ (j : Nat) t v, ts[j]? = some t → vs[j]? = some v → Value.okWide P W .any base t v) → DataW.TrodAll enc P W 0 (fun _ => true) true ts vs ds ps →
    vs.length = ks.length ∧ ds.length = ks.length ∧ ∀ (i : Nat) (p : PK) (v : Value), ks[i]? = some p → vs[i]? = some v → p.holds W v
  | [], [], [], ks, _, hk, _, _ => by simp at hk; subst hk; exact ⟨rfl, rfl, fun i p v h => by simp at h⟩
  | t :: ts, v :: vs, d :: ds, ks, _, hk, hv, ⟨p, q, h1, h2, e⟩ => by
    rw [List.mapM_cons] at hk
    cases hp : PK.of P t with
    | none => rw [hp] at hk; cases hk
    | some k =>
      rw [hp] at hk
      cases hr : ts.mapM (PK.of P) with
      | none => rw [hr] at hk; cases hk
      | some r =>
        rw [hr] at hk
        have hk' : some (k :: r) = some ks := hk
        injection hk' with hk'
        subst hk'
        obtain ⟨l1, l2, h⟩ := args_hold (base := base) (ps := []) hr (fun j t v hj hv' => hv (j + 1) t v (by simpa using hj) (by simpa using hv')) h2
        refine ⟨by simp [l1], by simp [l2], fun i p' v' hi hv' => ?_⟩
        cases i with
        | zero =>
          simp at hi hv'
          subst hi; subst hv'
          exact pk_holds hp (hv 0 t v rfl rfl) h1
        | succ i => exact h i p' v' (by simpa using hi) (by simpa using hv')
  | [], _ :: _, _, _, _, _, _, h => h.elim
  | [], [], _ :: _, _, _, _, _, h => h.elim
  | _ :: _, [], _, _, _, _, _, h => h.elim
  | _ :: _, _ :: _, [], _, _, _, _, h => h.elim

/-- What the row asks for. -/
theorem law_contract (hl : laidOutB P = true) {f : FuncId} {fn : Func} {s : ChangeSpec} {ks : List PK} {tb : TypeId} (hks : fn.params.toList.mapM (PK.of P) = some ks)
    (hp : fn.params.toList.all (fun t => P.readableRec t && Nat.blt t P.types.size) = true) (hres : fn.resultTypes = #[tb]) (htb : P.underlying tb = some .bool) (hvars : s.vars = [])
    (hspec : ∀ ds : List (DataW H), ds.length = ks.length → s.fn H ds = { results := [.lit (.bool true)], args := ds })
    {W : World} (hmain : ∀ vs : List Value, vs.length = ks.length → (∀ (i : Nat) (p : PK) (v : Value), ks[i]? = some p → vs[i]? = some v → p.holds W v) →
      Calls P f vs.toArray W fun e W' => e = .returned (.bool true) ∧ Below W.heap.size W W')
    {base : Nat} {args : Array Value} {ds gs : List (DataW H)} {before : List MemPlace} (hval : ∀ (j : Nat) t v, fn.params[j]? = some t → args[j]? = some v → Value.okWide P W .any base t v)
    (hW : DataW.Whole enc P fn.params.toList s.vars false W args.toList ds gs before) :
    Calls P f args W fun e W' => ∃ v, e = .returned v ∧ s.post enc P fn false true false false W args v W' := by
  have hW' := hW
  obtain ⟨p, q, hA, _⟩ := hW
  obtain ⟨l1, l2, h⟩ := args_hold (base := base) (ps := []) hks (fun j t v hj hv => hval j t v (by simpa using hj) (by simpa using hv)) hA
  have hc := hmain args.toList l1 h
  rw [Array.toArray_toList] at hc
  refine hc.mono fun e W' ⟨he, hb⟩ => ⟨_, he, law_post hW' hvars (hspec ds l2) hres htb hl (fun t ht => ?_) hb⟩
  have := List.all_eq_true.1 hp t ht
  simp only [Bool.and_eq_true] at this
  refine ⟨this.1, ?_⟩
  have h2 := this.2
  unfold Nat.blt at h2
  exact Nat.le_of_ble_eq_true h2
end
end Go.Sx
