/-
  SX, PART 10: every run of symbolic states is one of the model.
-/
import Derived.Test.YtckdphmpafopmaaSxReg
import Derived.Defers
namespace Go.Sx
open Go.RowKit
set_option linter.unusedVariables false
set_option linter.unusedSimpArgs false

def Post (env : Env) (w0 : Anchor) (ρ : PMap) (r : SV) (h' : Heap) (nx' : Nat) (e : Ending) (w' : World) : Prop :=
  ∃ ρ' v, e = .returned v ∧ ρ.le ρ' ∧ HSat env w0 ρ' h' w' ∧ (∀ n p, ρ' n = some p → n < nx') ∧ r.Rel env ρ' v

def Sound (P : Program) (env : Env) (w0 : Anchor) : Judg → Prop
  | .op ops base i fr h nx fr' h' nx' cl F => OpOk P env w0 ops base i fr h nx fr' h' nx' cl F
  | .code c fr h nx ex fr' h' nx' F => nx ≤ nx' ∧ ∀ t, (∀ n ∈ F.rd, t n = h n) → ∀ ρ a w Q, Sat env w0 ρ fr t nx a w →
      (∀ ρ' a' w', ρ.le ρ' → Sat env w0 ρ' fr' (mv t h' F) nx' a' w' → Q ex.den a' w') → c.wp P Q a w
  | .loop c fr h nx ex fr' h' nx' F => nx ≤ nx' ∧ ∃ k, ∀ t, (∀ n ∈ F.rd, t n = h n) → ∀ ρ a w Q, Sat env w0 ρ fr t nx a w →
      (∀ ρ' a' w', ρ.le ρ' → Sat env w0 ρ' fr' (mv t h' F) nx' a' w' → Q ex.den a' w') → Code.rounds P c Q k a w
  | .defs ds h nx h' nx' F => nx ≤ nx' ∧ ∀ t, (∀ n ∈ F.rd, t n = h n) → ∀ ρ w ds' fn tmps R, HSat env w0 ρ t w → (∀ n p, ρ n = some p → n < nx) → DRel env ρ ds ds' →
      (∀ ρ' w', ρ.le ρ' → HSat env w0 ρ' (mv t h' F) w' → (∀ n p, ρ' n = some p → n < nx') → Leaves P fn tmps R [] .returning w') → Leaves P fn tmps R ds' .returning w
  | .fn dfr f args h nx r h' nx' F => nx ≤ nx' ∧ ∀ t, (∀ n ∈ F.rd, t n = h n) → ∀ ρ w vs, HSat env w0 ρ t w → (∀ n p, ρ n = some p → n < nx) → SV.Rels env ρ args vs →
      Calls P f vs.toArray w (Post env w0 ρ r (mv t h' F) nx') ∧ (dfr = true → ∀ u, CallsD P f vs.toArray u w fun e u' w' => u' = u ∧ Post env w0 ρ r (mv t h' F) nx' e w')

section
variable {P : Program} {env : Env} {w0 : Anchor} {X : Ext}

theorem swant_ok {ops : Array Oper} {sl : List SV} {o : Oper} {b : Bool} {ρ : PMap} {tmps : Array Value} (hs : SV.Rels env ρ sl tmps.toList) (h : swant env ops sl o = some b) :
    Region.wanted o (yielded ops tmps) = b := by
  unfold swant at h
  unfold Region.wanted
  cases hg : o.guard with
  | none => rw [hg] at h; simpa using h
  | some q =>
    obtain ⟨j, want⟩ := q
    rw [hg] at h
    simp only at h ⊢
    unfold yielded
    cases hd : (ops[j]?).bind (·.dst) with
    | none => rw [hd] at h; cases h
    | some d =>
      rw [hd] at h
      simp only at h
      cases hx : sl[d]? with
      | none => rw [hx] at h; cases h
      | some x =>
        obtain ⟨v, hv, hr⟩ := hs.get hx
        have hv' : tmps[d]? = some v := by simpa using hv
        simp only [Option.bind_some, hv']
        rw [hx] at h
        cases x with
        | bool e =>
          simp only [SV.Rel] at hr
          subst hr
          injection h with h
        | tup l =>
          cases l with
          | nil =>
            simp only [SV.Rel, SV.Rels] at hr
            obtain ⟨y, rfl, rfl⟩ := hr
            injection h with h
          | cons y r => cases h
        | _ => cases h

theorem rels_put {ρ : PMap} {sl : List SV} {a : Act} {dst : Option Tmp} {x : SV} {v : Value} (hs : SV.Rels env ρ sl a.tmps.toList) (hx : x.Rel env ρ v) :
    SV.Rels env ρ (putS sl dst x) (a.put dst v).tmps.toList := by
  cases dst with
  | none => exact hs
  | some d =>
    simp only [putS, Act.put, Array.toList_setIfInBounds]
    exact hs.set d hx

theorem undef_rel {ρ : PMap} : SV.Rel env ρ sundef undef := ⟨[], rfl, rfl⟩
theorem put_defers {a : Act} {dst : Option Tmp} {v : Value} : (a.put dst v).defers = a.defers := by cases dst <;> rfl

/-- The common part of the operations that the model does at once. -/
theorem op_now (hP : Plain P) {ops : Array Oper} {base i : Nat} {fr : Fr} {h h' : Heap} {nx : Nat} {o : Oper} {out : SOut} {F : Foot} {x : SV} {df' : List (FuncId × List SV)} {cl : Bool}
    (ho : ops[i]? = some o) (hw : swant env ops fr.sl o = some true) (he : (opS P (base + i) (evalS fr.sl) o.op).Ev env h out h' Foot.nil F) (hcl : cl = false → df' = fr.df)
    (hout : ∀ (ρ : PMap) (n : Next), OutRel env ρ out n → (∃ v, x.Rel env ρ v ∧ ((n = .value v ∧ df' = fr.df) ∨ (n = .skip ∧ v = undef ∧ df' = fr.df) ∨
      (∃ d q l, cl = true ∧ n = .defer d ∧ v = undef ∧ df' = (q, l) :: fr.df ∧ ∀ ds r, DRel env ρ ds r → DRel env ρ ((q, l) :: ds) (d :: r))))) :
    OpOk P env w0 ops base i fr h nx ⟨putS fr.sl o.dst x, df'⟩ h' nx cl F := by
  refine ⟨o, x, ho, rfl, fun h => ⟨rfl, hcl h⟩, Nat.le_refl _, fun sl2 df2 t nx2 h1 h2 h3 h4 ρ a w K Q hs hK => ?_⟩
  obtain ⟨k, hl⟩ := prog_loc he
  obtain ⟨t', g1, g2⟩ := hl t h2
  have ht' := mv_of g2
  subst ht'
  have hrun : (opS P (base + i) (evalS sl2) o.op).Run env t out (mv t h' F) := by
    have := g1.run
    rw [← opS_congr (looks_op h1)] at this
    exact this
  obtain ⟨n, w', ρ', r1, r2, r3, r4, r5⟩ := opS_ok hP hs.hs hs.sl (o := o) hrun
  have hwant : Region.wanted o (yielded ops a.tmps) = true := swant_ok hs.sl (by rw [looks_guard h1]; exact hw)
  have hnx : ∀ m p, ρ' m = some p → m < nx2 := by
    intro m p hm
    cases hρ : ρ m with
    | some q => exact hs.nx m q hρ
    | none =>
      rcases r3 m hρ with e | e
      · rw [e] at hm; cases hm
      · omega
  have e2 : (if cl then nx else nx2) = nx2 := by
    cases hc : cl with
    | true => simp only [if_true]; exact (h3 hc).1.symm
    | false => simp
  unfold wpOp
  simp only [ho, hwant, if_true]
  refine .inl ?_
  unfold Oper.wp
  rw [r1]
  obtain ⟨v, hv, hcase⟩ := hout ρ' n r5
  have fin : ∀ a', a'.tmps = (a.put o.dst v).tmps → DRel env ρ' (if cl then df' else df2) a'.defers → K a' w' := fun a' ha hd =>
    hK ρ' a' w' r2 ⟨r4, by rw [ha]; exact rels_put (hs.sl.mono r2) hv, hd, by rw [e2]; exact hnx⟩
  have df_same : df' = fr.df → DRel env ρ' (if cl then df' else df2) (a.put o.dst v).defers := by
    intro e
    rw [put_defers]
    cases hc : cl with
    | true => simp only [if_true]; rw [e, ← (h3 hc).2]; exact hs.df.mono r2
    | false => simp only [Bool.false_eq_true, if_false]; exact hs.df.mono r2
  rcases hcase with ⟨rfl, e⟩ | ⟨rfl, rfl, e⟩ | ⟨d, q, l, hc, rfl, rfl, e, hd⟩
  · exact fin _ rfl (df_same e)
  · exact fin _ rfl (df_same e)
  · refine fin _ (by cases o.dst <;> rfl) ?_
    simp only [hc, if_true]
    rw [e, ← (h3 hc).2]
    rw [put_defers]
    exact hd _ _ (hs.df.mono r2)

theorem mv_trans {t b c : Heap} {F G : Foot} (k : Keeps b c G) : mv (mv t b F) c G = mv t c (F.add G) :=
  mv_of ((moved_mv t b F).trans (moved_mv (mv t b F) c G) k)

theorem rel_asAddrD {ρ : PMap} {ks : DKs} {e i : E} {j : Nat} {v : Value} (hv : (SV.dptr ks e i j).Rel env ρ v) {t : TypeId} {w : World} :
    (do loadVar t (← asAddr v) : Sem Value).run P w = (Instr.loadAt t v).run P w := by
  simp only [SV.Rel] at hv
  obtain ⟨b, o, rfl, _⟩ := hv
  rfl
theorem rel_asAddr {ρ : PMap} {n : Nat} {off : Off} {v : Value} (hv : (SV.ptr n off).Rel env ρ v) {t : TypeId} {w : World} :
    (do loadVar t (← asAddr v) : Sem Value).run P w = (Instr.loadAt t v).run P w := by
  simp only [SV.Rel] at hv
  obtain ⟨p, _, rfl⟩ := hv
  rfl

def rvar (tmps : Array Value) : ResultVar → Sem Value
  | .tmp t => pure (tmps.getD t undef)
  | .cell a t => do loadVar t (← asAddr (tmps.getD a undef))

/-- The results are read. -/
theorem resAll_ok {ρ : PMap} {h : Heap} {w : World} (H : HSat env w0 ρ h w) {sl : List SV} {tmps : Array Value} (hs : SV.Rels env ρ sl tmps.toList) : ∀ (l : List ResultVar) {r : List SV} {h' : Heap},
    (resAll P sl l).Run env h r h' → h = h' ∧ ∃ vs, SV.Rels env ρ r vs ∧ (l.mapM (rvar tmps)).run P w = .ok vs w := by
  have hev : ∀ t, (sl[t]?.getD sundef).Rel env ρ (tmps.getD t undef) := fun t => by
    let a : Act := ⟨tmps, []⟩
    exact evalS_ok (a := a) (x := .tmp t) hs rfl
  have one : ∀ {x : ResultVar} {s : SV} {h2 : Heap}, (resOne P sl x).Run env h s h2 → h = h2 ∧ ∃ v, s.Rel env ρ v ∧ (rvar tmps x).run P w = .ok v w := by
    intro x s h2 hx
    cases x with
    | tmp t =>
      simp only [resOne, run_ret] at hx
      obtain ⟨rfl, rfl⟩ := hx
      exact ⟨rfl, _, hev t, rfl⟩
    | cell a t =>
      simp only [resOne] at hx
      have hp := hev a
      generalize sl[a]?.getD sundef = y at hx hp
      cases y with
      | ptr n off =>
        obtain ⟨rfl, v, hrun, hv⟩ := loadS_same H hp hx
        exact ⟨rfl, v, hv, by rw [← hrun]; exact rel_asAddr hp⟩
      | dptr ks e i j =>
        obtain ⟨rfl, v, hrun, hv⟩ := loadS_same H hp hx
        exact ⟨rfl, v, hv, by rw [← hrun]; exact rel_asAddrD hp⟩
      | _ => exact hx.elim
  intro l
  induction l with
  | nil =>
    intro r h' hr
    simp only [resAll, run_ret] at hr
    obtain ⟨rfl, rfl⟩ := hr
    exact ⟨rfl, [], rfl, rfl⟩
  | cons x l ih =>
    intro r h' hr
    simp only [resAll, run_bind, run_pure] at hr
    obtain ⟨s, h1, hx, q, h2, hl, rfl, rfl⟩ := hr
    obtain ⟨rfl, v, hv, hrun⟩ := one hx
    obtain ⟨rfl, vs, hvs, hrun2⟩ := ih hl
    refine ⟨rfl, v :: vs, ⟨v, vs, rfl, hv, hvs⟩, ?_⟩
    rw [List.mapM_cons]
    simp only [Sem.run_bind, hrun, Result.andThen_ok, hrun2, Sem.run_pure]

theorem resS_ok {ρ : PMap} {h h' : Heap} {w : World} (H : HSat env w0 ρ h w) {fn : Func} {sl : List SV} {tmps : Array Value} (hs : SV.Rels env ρ sl tmps.toList) {r : SV}
    (he : (resS P fn sl).Run env h r h') : h = h' ∧ ∃ v, r.Rel env ρ v ∧ (results fn tmps).run P w = .ok v w := by
  simp only [resS, run_bind] at he
  obtain ⟨l, h1, hl, he⟩ := he
  obtain ⟨rfl, vs, hvs, hrun⟩ := resAll_ok H hs _ hl
  have hres : (results fn tmps).run P w = .ok (if hh : vs.toArray.size = 1 then vs.toArray[0] else .tuple vs.toArray) w := by
    have e : results fn tmps = (do let vs ← fn.results.mapM (rvar tmps); pure (if h : vs.size = 1 then vs[0] else .tuple vs)) := rfl
    rw [e, Array.mapM_eq_mapM_toList]
    simp only [Sem.run_bind, Sem.run_map, hrun, Result.andThen_ok, Sem.run_pure]
  split at he
  · rename_i v
    simp only [run_pure] at he
    obtain ⟨rfl, rfl⟩ := he
    simp only [SV.Rels] at hvs
    obtain ⟨u, _, rfl, hu, rfl⟩ := hvs
    exact ⟨rfl, u, hu, by rw [hres]; simp⟩
  · rename_i hne
    simp only [run_pure] at he
    obtain ⟨rfl, rfl⟩ := he
    refine ⟨rfl, .tuple vs.toArray, ⟨vs, rfl, hvs⟩, ?_⟩
    rw [hres, dif_neg]
    intro hc
    have : vs.length = 1 := by simpa using hc
    have hl1 : l.length = 1 := by rw [← hvs.length]; exact this
    match l, hl1 with
    | [v], _ => exact hne v rfl

end
end Go.Sx
