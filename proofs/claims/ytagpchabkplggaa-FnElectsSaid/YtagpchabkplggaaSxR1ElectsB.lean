/-
  THE LAW FnElects: all its paths; its row.
-/
import Derived.Test.YtagpchabkplggaaSxR1Elects
import Derived.ChangeAt
namespace Go.Proofs.Ytagpchabkplggaa.sxElects
open Go.Sx Go.RowKit
open Go.ChangeShapes Go.WideShapes Go.ChangeAt
set_option linter.unusedVariables false
set_option linter.unusedSimpArgs false
set_option maxRecDepth 100000

theorem apart8 : loopsApart Try.prog 8 = true := by kernel_rfl

theorem nth_some {α : Type} {l : List α} {n : Nat} {x : α} (h : nth l n = some x) : l[n]? = some x := by rw [← nth_eq]; exact h

theorem isLen_eq {x : Option SV} (h : isLen x = true) : x = some (.int .i64 (.o1 .size (.v 0))) := by
  unfold isLen at h
  split at h
  · rfl
  · cases h
theorem isZero_eq {x : Option SV} (h : isZero x = true) : x = some (.int .i64 (.il 0)) := by
  unfold isZero at h
  split at h
  · rfl
  · cases h

/-- The contract of the loop holds. -/
theorem ctr_ok {env : Env} {w0 : Anchor} {s : ByteArray} (hs0 : env.v 0 = .s s) (hsz : s.size ≤ maxLen) {b : Bool} (hv : env.v 1000 = .b b) (hb : b = true ↔ goodTo s s.size) : ExtOk Try.prog env w0 (ctr.toExt Try.prog) := by
  refine ⟨fun f args nx p h r h' nx' hx => (by cases hx), fun c fr nx p h ex fr' h' nx' hx hr => ?_⟩
  obtain ⟨f, fn, body', k, hfn, hbody, hmem, hlp⟩ := hx
  have hlp' : lpHook f k fr nx = some p := hlp
  unfold lpHook at hlp'
  split at hlp'
  · rename_i n h4
    cases hc : (Nat.beq f 8 && Nat.beq k 7 && isLen (nth fr.sl 55) && isZero (nth fr.sl 56) && fr.df.isEmpty && Nat.beq fr.sl.length 90) with
    | false => rw [hc] at hlp'; cases hlp'
    | true =>
      rw [hc] at hlp'
      simp only [cond_true, Option.some.injEq] at hlp'
      subst hlp'
      simp only [Bool.and_eq_true, Nat.beq_eq] at hc
      obtain ⟨⟨⟨⟨⟨rfl, rfl⟩, h55⟩, h56⟩, hdf⟩, hlen⟩ := hc
      have hcb : c = body := theLoop_eq apart8 hfn hbody hmem
      subst hcb
      have hdf' : fr.df = [] := by simpa using hdf
      unfold lpP at hr
      rw [run_bind] at hr
      obtain ⟨o, h1, hg, hr⟩ := hr
      rw [run_getN] at hg
      obtain ⟨hg, rfl⟩ := hg
      split at hr
      · rename_i x1 x2 x3 x4 x5
        rw [run_bind] at hr
        obtain ⟨t, h2, ht, hr⟩ := hr
        rw [run_decE] at ht
        obtain ⟨ht, rfl⟩ := ht
        have htb : t = b := by rw [← ht]; simp only [E.den, hv]; rfl
        subst htb
        have fin : ∀ {ex0 : SExit} {fr0 : Fr}, (ex0, fr0, nx) = (ex, fr', nx') → ex0 = ex ∧ fr0 = fr' ∧ nx = nx' := fun e => by
          injection e with e1 e2; injection e2 with e2 e3; exact ⟨e1, e2, e3⟩
        cases t with
        | true =>
          simp only [run_pure] at hr
          obtain ⟨e, rfl⟩ := hr
          obtain ⟨rfl, rfl, rfl⟩ := fin e
          refine ⟨Nat.le_refl _, fun ρ a w Q hs hq => ?_⟩
          exact loop_wp hs0 hsz hb hs (nth_some h4) (nth_some (isLen_eq h55)) (nth_some (isZero_eq h56)) hdf' hlen hg (fun _ a' w' hs' => hq ρ a' w' (PMap.le_refl ρ) hs') (fun h => by cases h)
        | false =>
          simp only [run_pure] at hr
          obtain ⟨e, rfl⟩ := hr
          obtain ⟨rfl, rfl, rfl⟩ := fin e
          refine ⟨Nat.le_refl _, fun ρ a w Q hs hq => ?_⟩
          exact loop_wp hs0 hsz hb hs (nth_some h4) (nth_some (isLen_eq h55)) (nth_some (isZero_eq h56)) hdf' hlen hg (fun h => by cases h) (fun _ a' w' hs' => hq ρ a' w' (PMap.le_refl ρ) hs')
      · exact hr.elim
  · cases hlp'

/-! ### the law -/
def ks : List PK := [.struct [.str, .int .i64, .int .i64, .int .i64, .bool, .bool]]
def fs0 : Facts := [(.o2 .le (.il 10000000000) (.o1 (.fin 4608083138725491507) (.il 2000000000)), false), (.o1 (.fok 4608083138725491507) (.il 2000000000), true)]
def okV (q : Leaf) (e : E) : Bool :=
  match e with
  | .o1 (.fok 4608083138725491507) (.v 3) =>
    (match Go.Sx.look q.fs (.o2 .lt (.il 1125899906842624) (.v 3)) with | some false => true | _ => false) && (match Go.Sx.look q.fs (.o2 .lt (.v 3) (.il (-1125899906842624))) with | some false => true | _ => false)
  | _ => false
def okLeaf (q : Leaf) : Bool := (match q.r with | .bool (.bl true) => true | _ => false) && q.vcs.all (okV q)
def okAll (x : Ex (List Leaf)) : Bool :=
  match x with
  | .ok l => l.all okLeaf
  | _ => false
theorem law_paths : okAll (explore Try.prog ctr 200 (.fn false 3 (symArgs ks 0)) (symHeap ks 0) ks.length 60 (fs0 ++ symFacts ks 0)) = true := by kernel_rfl

theorem flConst : flVal 4608083138725491507 2000000000 = 2400000000 := by kernel_rfl

theorem okV_ok {env : Env} {q : Leaf} (hq : q.fs.Hold env) {e : E} (h : okV q e = true) : (e.den env).B = true := by
  unfold okV at h
  split at h
  · rw [Bool.and_eq_true] at h
    obtain ⟨h1, h2⟩ := h
    split at h1
    · rename_i l1
      split at h2
      · rename_i l2
        have a1 := look_ok hq l1
        have a2 := look_ok hq l2
        rw [B_lt] at a1 a2
        have a1 := of_decide_eq_false a1
        have a2 := of_decide_eq_false a2
        have a1' : ¬ ((1125899906842624 : Int) < ((E.v 3).den env).I) := a1
        have a2' : ¬ (((E.v 3).den env).I < (-1125899906842624 : Int)) := a2
        show flOk 4608083138725491507 ((E.v 3).den env).I = true
        exact Flo.flOk_small _ (by omega) (by omega)
      · cases h2
    · cases h1
  · cases h

theorem walk (W : World) (vs : List Value) (hl : vs.length = ks.length) (hall : ∀ (i : Nat) (p : PK) (v : Value), ks[i]? = some p → vs[i]? = some v → p.holds W v) :
    Calls Try.prog 3 vs.toArray W fun e W' => e = .returned (.bool true) ∧ Below W.heap.size W W' := by
  cases he : explore Try.prog ctr 200 (.fn false 3 (symArgs ks 0)) (symHeap ks 0) ks.length 60 (fs0 ++ symFacts ks 0) with
  | error e => have := law_paths; rw [he] at this; cases this
  | ok l =>
    have hok := law_paths
    rw [he] at hok
    have hok : l.all okLeaf = true := hok
    obtain ⟨v, rfl⟩ : ∃ v, vs = [v] := by
      cases vs with
      | nil => cases hl
      | cons v r => cases r with
        | nil => exact ⟨v, rfl⟩
        | cons _ _ => simp [ks] at hl
    obtain ⟨cs, rfl, hcs⟩ := hall 0 _ v rfl rfl
    obtain ⟨u0, hu0, s, rfl, hsz⟩ := hcs.2 0 .str rfl
    let x : Env := ⟨fun _ => .b (@decide (goodTo s s.size) (Classical.propDecidable _)), fun _ _ => .i 0, fun _ _ => .nilIface, fun _ => (#[], 0)⟩
    have hv0 : (envOf W ks [.agg cs] x).v 0 = .s s := by
      have hc0 : cs[0]? = some (.string s) := by simpa using hu0
      show dv ((cs[0 % 32]?).getD .nilIface) = _
      rw [show 0 % 32 = 0 from rfl, hc0]
      rfl
    refine law_main (x := x) plain mixed (by decide) he hl hall ?_ (ctr_ok hv0 hsz (show (envOf W ks [.agg cs] x).v 1000 = .b _ from rfl) (by simp)) ?_
    · refine Facts.hold_cons ?_ (Facts.hold_cons ?_ hold_nil)
      · rw [B_le]
        apply decide_eq_false
        show ¬ (10000000000 ≤ flVal 4608083138725491507 2000000000)
        rw [flConst]; decide
      · have e : ((E.il 2000000000).den (envOf W ks [.agg cs] x)).I = 2000000000 := rfl
        exact Flo.flOk_small ((E.il 2000000000).den (envOf W ks [.agg cs] x)).I (by rw [e]; decide) (by rw [e]; decide)
    · intro q hq hqf
      have hql := List.all_eq_true.1 hok q hq
      unfold okLeaf at hql
      rw [Bool.and_eq_true] at hql
      refine ⟨fun e he => okV_ok hqf (List.all_eq_true.1 hql.2 e he), .bl true, ?_, rfl⟩
      have := hql.1
      split at this
      · rename_i hr; exact hr
      · cases this

theorem own : ownKnob Try.prog.godebug = none := by kernel_rfl
theorem laid : laidOutB Try.prog = true := by kernel_rfl

theorem contract (H : Type) (enc : TypeId × Value → H) (W : World) (base : Nat) (args : Array Value) (ds gs : List (DataW H)) (before : List MemPlace)
    (hval : ∀ (j : Nat) t v, Try.f3.params[j]? = some t → args[j]? = some v → Value.okWide Try.prog W .any base t v)
    (hW : DataW.Whole enc Try.prog Try.f3.params.toList Rows.fnElectsSpec.vars false W args.toList ds gs before) :
    Calls Try.prog 3 args W fun e W' => ∃ v, e = .returned v ∧ Rows.fnElectsSpec.post enc Try.prog Try.f3 false true false false W args v W' :=
  law_contract laid (ks := ks) (tb := 4) (by kernel_rfl) (by kernel_rfl) (by kernel_rfl) (by kernel_rfl) rfl
    (fun ds hd => by
      match ds, hd with
      | [d], _ => rfl) (walk W) hval hW

set_option maxRecDepth 100000 in
theorem lifted (os : Os) (started : os.Started) (H : Type) (enc : TypeId × Value → H) :
    ReturnsInHanded {} Try.checked os 3 .any (Rows.fnElectsSpec.pre6 enc Try.prog Try.f3 Rows.fnElectsRow.domain false) (Rows.fnElectsSpec.post enc Try.prog Try.f3 false true false false) := by
  refine returnsInHanded_of_change (C := Try.checked) (s := Rows.fnElectsSpec) own started (by kernel_rfl) Try.func3
    (ChangeSpec.witness6 (enc := enc) (C := Try.checked) false ⟨#[], #[.agg #[.string ⟨#[]⟩, .int .i64 0, .int .i64 0, .int .i64 0, .bool false, .bool false]], []⟩ 8 (by kernel_rfl) (by kernel_rfl) (by kernel_rfl) (by kernel_rfl)) ?_
  intro W base args ds gs before hval hW _ _
  exact contract H enc W base args ds gs before hval hW

theorem proved : Rows.FnElectsSaid :=
  OpenClaim.holds_of_wide 3 Try.f3 rfl rfl rfl rfl rfl rfl rfl ⟨rfl, rfl, rfl, rfl, rfl⟩ rfl rfl rfl rfl rfl (by kernel_rfl) Try.func3 (by kernel_rfl)
    (of_decide_eq_true (by kernel_rfl)) (by unfold Func.isWrapper; first | (rw [if_pos (by decide +kernel)]; kernel_rfl) | (rw [if_neg (by decide +kernel)]; exact ⟨rfl, rfl⟩))
    (fun os started H enc _ => lifted os started H enc)

end Go.Proofs.Ytagpchabkplggaa.sxElects
