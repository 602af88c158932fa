/-
  SX, PART 5g: every operation.
-/
import Derived.Test.YtckdphmpafopmaaSxOpOkM
namespace Go.Sx
open Go.RowKit
set_option linter.unusedVariables false
set_option linter.unusedSimpArgs false

section
variable {P : Program} {env : Env} {w0 : Anchor} {w : World} {ρ : PMap} {h h' : Heap} {nm : Nat}

def OutRel (env : Env) (ρ : PMap) : SOut → Next → Prop
  | .val x, n => ∃ v, n = .value v ∧ x.Rel env ρ v
  | .skip, n => n = .skip
  | .call f args, n => ∃ vs, n = .enter f vs.toArray ∧ SV.Rels env ρ args vs
  | .defer fn cap args, n => ∃ cs vs, n = .defer { target := .fn fn cs.toArray, args := vs.toArray } ∧ SV.Rels env ρ cap cs ∧ SV.Rels env ρ args vs

/-- What an operation comes to. -/
def StepOk (P : Program) (env : Env) (w0 : Anchor) (ρ : PMap) (nm : Nat) (h' : Heap) (w : World) (s : Sem Next) (out : SOut) : Prop :=
  ∃ n w' ρ', s.run P w = .ok n w' ∧ ρ.le ρ' ∧ (∀ n, ρ n = none → ρ' n = none ∨ n = nm) ∧ HSat env w0 ρ' h' w' ∧ OutRel env ρ' out n

theorem SemOk.value {s : Sem Value} {x : SV} (hs : SemOk P env w0 ρ nm h' w s x) : StepOk P env w0 ρ nm h' w (do pure (.value (← s))) (.val x) := by
  obtain ⟨v, w', ρ', h1, h2, h3, h4, h5⟩ := hs
  exact ⟨.value v, w', ρ', by simp only [Sem.run_bind, h1, Result.andThen_ok, Sem.run_pure], h2, h3, h4, v, rfl, h5⟩

theorem valO_run {p : Prog SV} {out : SOut} : (valO p).Run env h out h' ↔ ∃ x, out = .val x ∧ p.Run env h x h' := by
  simp only [valO, run_bind, run_pure]
  constructor
  · rintro ⟨v, _, h1, rfl, rfl⟩; exact ⟨v, rfl, h1⟩
  · rintro ⟨x, rfl, h1⟩; exact ⟨x, _, h1, rfl, rfl⟩

theorem evs_ok {ev : Operand → Option SV} {g : Operand → Value} (hev : ∀ x s, ev x = some s → s.Rel env ρ (g x)) : ∀ {l : List Operand} {r : List SV} {h h' : Heap},
    (evs ev l).Run env h r h' → h = h' ∧ SV.Rels env ρ r (l.map g)
  | [], r, h, h', he => by simp only [evs, run_ret] at he; obtain ⟨rfl, rfl⟩ := he; exact ⟨rfl, rfl⟩
  | x :: l, r, h, h', he => by
    simp only [evs, run_bind, run_ofOpt, run_pure] at he
    obtain ⟨v, _, ⟨h1, rfl⟩, q, _, h2, rfl, rfl⟩ := he
    obtain ⟨rfl, h3⟩ := evs_ok hev h2
    exact ⟨rfl, g x, _, rfl, hev x v h1, h3⟩
theorem evp_ok {ev : Operand → Option SV} {g : Operand → Value} (hev : ∀ x s, ev x = some s → s.Rel env ρ (g x)) : ∀ {l : List (Nat × Operand)} {r : List (Nat × SV)} {h h' : Heap},
    (evp ev l).Run env h r h' → h = h' ∧ PartsRel env ρ r (l.map fun (i, x) => (i, g x))
  | [], r, h, h', he => by simp only [evp, run_ret] at he; obtain ⟨rfl, rfl⟩ := he; exact ⟨rfl, .nil⟩
  | (i, x) :: l, r, h, h', he => by
    simp only [evp, run_bind, run_ofOpt, run_pure] at he
    obtain ⟨v, _, ⟨h1, rfl⟩, q, _, h2, rfl, rfl⟩ := he
    obtain ⟨rfl, h3⟩ := evp_ok hev h2
    exact ⟨rfl, .cons (hev x v h1) h3⟩
theorem evo_ok {ev : Operand → Option SV} {g : Operand → Value} (hev : ∀ x s, ev x = some s → s.Rel env ρ (g x)) {o : Option Operand} {r : Option SV} {h h' : Heap}
    (he : (evo ev o).Run env h r h') : h = h' ∧ OptRel env ρ r (o.map g) := by
  cases o with
  | none => simp only [evo, run_ret] at he; obtain ⟨rfl, rfl⟩ := he; exact ⟨rfl, .none⟩
  | some x =>
    simp only [evo, run_bind, run_ofOpt, run_pure] at he
    obtain ⟨v, _, ⟨h1, rfl⟩, rfl, rfl⟩ := he
    exact ⟨rfl, .some (hev x v h1)⟩

/-- No function with a body bears the one name that the model looks for. -/
def Plain (P : Program) : Prop := ∀ (f : FuncId) (fn : Func), P.funcs[f]? = some fn → fn.body.isSome = true → (fn.name == "runtime.NumGoroutine") = false

theorem callF_ok (hP : Plain P) (H : HSat env w0 ρ h w) {f : FuncId} {args : List SV} {vs : List Value} {out : SOut} (ha : SV.Rels env ρ args vs) (he : (callF P f args).Run env h out h') :
    StepOk P env w0 ρ nm h' w (callFunc f vs.toArray) out := by
  simp only [callF, run_bind, run_ofOpt, run_must, run_pure] at he
  obtain ⟨fn, _, ⟨hf, rfl⟩, _, _, ⟨hb, rfl⟩, rfl, rfl⟩ := he
  have hname := hP f fn hf hb
  have hnone : fn.body.isNone = false := by cases hbb : fn.body <;> simp_all
  exact ⟨.enter f vs.toArray, w, ρ, by simp only [callFunc, Sem.run_bind, run_program, Result.andThen_ok, hf, hname, Bool.false_eq_true, if_false, hnone, Sem.run_pure], PMap.le_refl ρ, fun n hn => .inl hn, H, vs, rfl, ha⟩

def mOk : TypeDesc → Bool → Bool
  | .pointer _, b => b
  | _, b => !b

theorem callM_ok (hP : Plain P) (H : HSat env w0 ρ h w) {recv : SV} {rv : Value} {name : String} {args : List SV} {vs : List Value} {out : SOut} (hr : recv.Rel env ρ rv) (ha : SV.Rels env ρ args vs)
    (he : (callM P recv name args).Run env h out h') : StepOk P env w0 ρ nm h' w (callMethod rv name vs.toArray) out := by
  cases recv with
  | ifc t v =>
    simp only [SV.Rel] at hr
    obtain ⟨u, rfl, hu⟩ := hr
    simp only [callM, run_bind, run_inf, run_ofOpt, run_must, run_und] at he
    obtain ⟨i, _, ⟨hi, rfl⟩, m, _, ⟨hm, rfl⟩, _, _, ⟨hpath, rfl⟩, ty, _, ⟨hty, rfl⟩, he⟩ := he
    have hp : m.path = #[] := by simpa using hpath
    obtain ⟨k, hk⟩ : ∃ k, P.types.size + Made.depth = k + 1 := ⟨P.types.size + 99, rfl⟩
    have hargs : SV.Rels env ρ (v :: args) (u :: vs) := ⟨u, vs, rfl, hu, ha⟩
    have e : (#[u] : Array Value) ++ vs.toArray = (u :: vs).toArray := by apply Array.ext'; simp
    cases hf : m.func with
    | none => rw [hf] at he; exact he.elim
    | some q =>
      obtain ⟨f, ptr⟩ := q
      rw [hf] at he
      have meth : mOk ty ptr = true →
          (method (P.types.size + Made.depth) t u name).run P w = .ok (f, u) w := by
        intro hc
        rw [hk]
        simp only [method, Sem.run_bind, s_inf hi, Result.andThen_ok, hm, hp, Array.toList_empty, follow, Sem.run_pure, hf, receiverAt, s_und hty]
        cases ty <;> cases ptr <;> first
          | (cases hc; done)
          | (simp only [Place.get, Sem.run_bind, Sem.run_pure, Result.andThen_ok]; done)
      have fin : mOk ty ptr = true → (callF P f (v :: args)).Run env h out h' →
          StepOk P env w0 ρ nm h' w (callMethod (.iface t u) name vs.toArray) out := by
        intro hc hh
        obtain ⟨n, w', ρ', h1, h2⟩ := callF_ok hP H hargs hh
        refine ⟨n, w', ρ', ?_, h2⟩
        simp only [callMethod, Sem.run_bind, run_program, Result.andThen_ok, meth hc, e]
        exact h1
      cases ty <;> cases ptr <;> first
        | exact he.elim
        | exact fin rfl he
  | _ => exact he.elim

theorem min_run {tys : Array TypeId} {ty : TypeId} {k k' : IntKind} {a b : Int} : (Builtin.min_ tys ty [Value.int k a, .int k' b].toArray).run P w = .ok (.int k (if b < a then b else a)) w := by
  simp only [Builtin.min_, List.foldlM_cons, List.foldlM_nil, Builtin.min2, Sem.run_bind, Sem.run_pure, Result.andThen_ok]
theorem max_run {tys : Array TypeId} {ty : TypeId} {k k' : IntKind} {a b : Int} : (Builtin.max_ tys ty [Value.int k a, .int k' b].toArray).run P w = .ok (.int k (if b > a then b else a)) w := by
  simp only [Builtin.max_, List.foldlM_cons, List.foldlM_nil, Builtin.max2, Sem.run_bind, Sem.run_pure, Result.andThen_ok]

theorem builtinS_ok (H : HSat env w0 ρ h w) {b : Builtin} {tys : Array TypeId} {ty : TypeId} {cs : Array Bool} {args : List SV} {vs : List Value} {out : SOut} (ha : SV.Rels env ρ args vs)
    (he : (builtinS P nm b tys.toList args).Run env h out h') : StepOk P env w0 ρ nm h' w (builtin b tys ty cs vs.toArray) out := by
  unfold builtinS at he
  split at he
  · rename_i t x htys
    simp only [run_bind, run_pure] at he
    obtain ⟨v, _, hv, rfl, rfl⟩ := he
    simp only [SV.Rels] at ha
    obtain ⟨y, _, rfl, hy, rfl⟩ := ha
    have : tys = #[t] := by apply Array.ext'; exact htys
    subst this
    exact (lenS_ok (ty := ty) H hy hv).value
  · rename_i t u s x htys
    simp only [run_bind, run_und] at he
    obtain ⟨d, _, ⟨hd, rfl⟩, he⟩ := he
    cases d with
    | slice e2 =>
      simp only [run_bind, run_pure] at he
      obtain ⟨v, _, hv, rfl, rfl⟩ := he
      simp only [SV.Rels] at ha
      obtain ⟨y, _, rfl, hy, z, _, rfl, hz, rfl⟩ := ha
      have : tys = #[t, u] := by apply Array.ext'; exact htys
      subst this
      exact (appendS_ok (ti := ty) H hy hz hd hv).value
    | _ => exact he.elim
  · rename_i x
    simp only [run_bind, run_pure] at he
    obtain ⟨v, _, hv, rfl, rfl⟩ := he
    simp only [SV.Rels] at ha
    obtain ⟨y, _, rfl, hy, rfl⟩ := ha
    exact (closeS_ok (tys := tys) (ty := ty) H hy hv).value
  · rename_i t u x k htys
    simp only [run_bind, run_pure] at he
    obtain ⟨v, _, hv, rfl, rfl⟩ := he
    simp only [SV.Rels] at ha
    obtain ⟨y, _, rfl, hy, z, _, rfl, hz, rfl⟩ := ha
    have : tys = #[t, u] := by apply Array.ext'; exact htys
    subst this
    exact (deleteS_ok (ty := ty) H hy hz hv).value
  · simp only [run_pure] at he
    obtain ⟨rfl, rfl⟩ := he
    simp only [SV.Rels, SV.Rel] at ha
    obtain ⟨_, _, rfl, rfl, _, _, rfl, rfl, rfl⟩ := ha
    exact SemOk.value (SemOk.same H min_run (by simp only [SV.Rel, mk2_den]; rfl))
  · simp only [run_pure] at he
    obtain ⟨rfl, rfl⟩ := he
    simp only [SV.Rels, SV.Rel] at ha
    obtain ⟨_, _, rfl, rfl, _, _, rfl, rfl, rfl⟩ := ha
    exact SemOk.value (SemOk.same H max_run (by simp only [SV.Rel, mk2_den]; rfl))
  · exact he.elim

theorem guardS_ok {op : BinOp} {t : TypeId} {x y : Operand} {a b : SV} {v u : Value} {r : Unit} (ha : a.Rel env ρ v) (hb : b.Rel env ρ u) (he : (guardS P op t x y a b).Run env h r h') :
    h = h' ∧ (eqGuard op t x y v u).run P w = .ok () w := by
  have plain : (op ≠ .eql ∧ op ≠ .neq) → (eqGuard op t x y v u).run P w = .ok () w := by
    intro hop
    cases op <;> first
      | rfl
      | exact absurd rfl hop.1
      | exact absurd rfl hop.2
  have nils : (cstE x || cstE y) = true → v = .nilIface → u = .nilIface → (eqGuard op t x y v u).run P w = .ok () w := by
    intro hc hv hu
    subst hv; subst hu
    cases op <;> first
      | rfl
      | (cases x <;> cases y <;> first | rfl | (cases hc; done))
  have other : (v = .nilIface → u = .nilIface → False) → (∀ l m, v = .agg l → u = .agg m → P.eqGuardType P.depth t = false) → (eqGuard op t x y v u).run P w = .ok () w := by
    intro c1 c2
    unfold eqGuard
    cases v <;> cases u <;> first
      | exact (c1 rfl rfl).elim
      | exact run_eqGuard_agg w op t x y _ _ (c2 _ _ rfl rfl)
      | (cases op <;> rfl)
  have nn : ∀ {q : SV} {z : Value}, q.Rel env ρ z → q.shut = true → q.isNilif = false → z ≠ .nilIface := by
    intro q z hq hs hn e
    subst e
    cases q <;> simp only [SV.shut, SV.isNilif] at hs hn <;> simp [SV.Rel, DK.Rel] at hq <;> (try (cases hs; done)) <;> (try (cases hn; done))
  have na : ∀ {q : SV} {z : Value}, q.Rel env ρ z → q.shut = true → q.isAggS = false → ∀ l, z ≠ .agg l := by
    intro q z hq hs hn l e
    subst e
    cases q <;> simp only [SV.shut, SV.isAggS] at hs hn <;> simp [SV.Rel, DK.Rel] at hq <;> (try (cases hs; done)) <;> (try (cases hn; done))
  have main : ((a.shut && b.shut) = true) → ((!(a.isAggS && b.isAggS) || !(P.eqGuardType P.depth t)) = true) → ((cstE x || cstE y || !(a.isNilif && b.isNilif)) = true) → (eqGuard op t x y v u).run P w = .ok () w := by
    intro h1 h2 h3
    simp only [Bool.and_eq_true] at h1
    cases h4 : (a.isNilif && b.isNilif) with
    | true =>
      rw [h4] at h3
      simp only [Bool.and_eq_true] at h4
      have e1 : v = .nilIface := by cases a <;> simp only [SV.isNilif] at h4 <;> first | exact ha | (cases h4.1)
      have e2 : u = .nilIface := by cases b <;> simp only [SV.isNilif] at h4 <;> first | exact hb | (cases h4.2)
      exact nils (by simpa using h3) e1 e2
    | false =>
      refine other (fun e1 e2 => ?_) (fun l m e1 e2 => ?_)
      · rcases Bool.and_eq_false_iff.1 h4 with h | h
        · exact nn ha h1.1 h e1
        · exact nn hb h1.2 h e2
      · rw [Bool.or_eq_true] at h2
        rcases h2 with h2 | h2
        · have h2' : (a.isAggS && b.isAggS) = false := by rw [← Bool.not_eq_true']; exact h2
          rcases Bool.and_eq_false_iff.1 h2' with h | h
          · exact (na ha h1.1 h _ e1).elim
          · exact (na hb h1.2 h _ e2).elim
        · simpa using h2
  unfold guardS at he
  split at he
  · simp only [run_bind, run_must] at he
    obtain ⟨_, _, ⟨h1, rfl⟩, _, _, ⟨h2, rfl⟩, h3, rfl⟩ := he
    exact ⟨rfl, main h1 h2 h3⟩
  · simp only [run_bind, run_must] at he
    obtain ⟨_, _, ⟨h1, rfl⟩, _, _, ⟨h2, rfl⟩, h3, rfl⟩ := he
    exact ⟨rfl, main h1 h2 h3⟩
  · rename_i h1 h2
    rw [run_ret] at he
    exact ⟨he.2, plain ⟨h1, h2⟩⟩

theorem callS_ok (hP : Plain P) (H : HSat env w0 ρ h w) {ev : Operand → Option SV} {g : Operand → Value} (hev : ∀ x s, ev x = some s → s.Rel env ρ (g x)) {c : Call} {ty : TypeId} {out : SOut}
    (he : (callS P nm ev c).Run env h out h') : StepOk P env w0 ρ nm h' w (do let d ← resolve g c ty; invoke d.target d.args) out := by
  simp only [callS, run_bind] at he
  obtain ⟨args, _, ha0, he⟩ := he
  obtain ⟨rfl, ha⟩ := evs_ok hev ha0
  have hargs : c.args.map g = (c.args.toList.map g).toArray := by apply Array.ext'; simp
  split at he
  · rename_i b hc
    obtain ⟨n, w', ρ', h1, h2⟩ := builtinS_ok (ty := ty) (cs := c.args.map fun | .const _ => true | _ => false) H ha he
    refine ⟨n, w', ρ', ?_, h2⟩
    simp only [resolve, hc, Sem.run_bind, Sem.run_pure, Result.andThen_ok, invoke, hargs]
    exact h1
  · rename_i r name hc
    simp only [run_bind, ev1, run_ofOpt] at he
    obtain ⟨x, _, ⟨hx, rfl⟩, he⟩ := he
    obtain ⟨n, w', ρ', h1, h2⟩ := callM_ok hP H (hev r x hx) ha he
    refine ⟨n, w', ρ', ?_, h2⟩
    simp only [resolve, hc, Sem.run_bind, Sem.run_pure, Result.andThen_ok, invoke, hargs]
    have e1 : (#[g r] ++ (c.args.toList.map g).toArray)[0]? = some (g r) := by simp
    have e2 : (#[g r] ++ (c.args.toList.map g).toArray).extract 1 (#[g r] ++ (c.args.toList.map g).toArray).size = (c.args.toList.map g).toArray := by
      apply Array.ext'
      simp only [Array.toList_extract, Array.toList_append, List.extract_eq_take_drop, Array.size_append, List.size_toArray, List.length_map, Array.length_toList]
      simp only [List.singleton_append, List.drop_succ_cons, List.drop_zero]
      apply List.take_of_length_le
      simp
    rw [e1, e2]
    exact h1
  · rename_i f hc
    simp only [run_bind, ev1, run_ofOpt] at he
    obtain ⟨x, _, ⟨hx, rfl⟩, he⟩ := he
    split at he
    · rename_i q first cap
      have hr := hev f _ hx
      simp only [SV.Rel] at hr
      obtain ⟨vf, vc, hg, hvf, hvc⟩ := hr
      obtain ⟨n, w', ρ', h1, h2⟩ := callF_ok hP H ((hvf.append ha).append hvc) he
      refine ⟨n, w', ρ', ?_, h2⟩
      have e : vf.toArray ++ (c.args.toList.map g).toArray ++ vc.toArray = (vf ++ c.args.toList.map g ++ vc).toArray := by apply Array.ext'; simp
      simp only [resolve, hc, hg, Deferred.ofValue, Sem.run_bind, Sem.run_pure, Result.andThen_ok, invoke, hargs, e]
      exact h1
    · exact he.elim

theorem deferS_ok (H : HSat env w0 ρ h w) {ev : Operand → Option SV} {g : Operand → Value} (hev : ∀ x s, ev x = some s → s.Rel env ρ (g x)) {c : Call} {ty : TypeId} {out : SOut}
    (he : (deferS ev c).Run env h out h') : StepOk P env w0 ρ nm h' w (do pure (.defer (← resolve g c ty))) out := by
  simp only [deferS, run_bind] at he
  obtain ⟨args, _, ha0, he⟩ := he
  obtain ⟨rfl, ha⟩ := evs_ok hev ha0
  have hargs : c.args.map g = (c.args.toList.map g).toArray := by apply Array.ext'; simp
  split at he
  · rename_i f hc
    simp only [run_bind, ev1, run_ofOpt] at he
    obtain ⟨x, _, ⟨hx, rfl⟩, he⟩ := he
    split at he
    · rename_i q first cap
      simp only [run_pure] at he
      obtain ⟨rfl, rfl⟩ := he
      have hr := hev f _ hx
      simp only [SV.Rel] at hr
      obtain ⟨vf, vc, hg, hvf, hvc⟩ := hr
      have e : vf.toArray ++ (c.args.toList.map g).toArray = (vf ++ c.args.toList.map g).toArray := by apply Array.ext'; simp
      refine ⟨.defer { target := .fn (.func q) vc.toArray, args := (vf ++ c.args.toList.map g).toArray }, w, ρ, ?_, PMap.le_refl ρ, fun n hn => .inl hn, H, vc, _, rfl, hvc, hvf.append ha⟩
      simp only [resolve, hc, hg, Deferred.ofValue, Sem.run_bind, Sem.run_pure, Result.andThen_ok, hargs, e]
    · exact he.elim
  · exact he.elim

theorem opS_ok (hP : Plain P) (H : HSat env w0 ρ h w) {sl : List SV} {a : Act} (hs : SV.Rels env ρ sl a.tmps.toList) {o : Oper} {out : SOut}
    (he : (opS P nm (evalS sl) o.op).Run env h out h') : StepOk P env w0 ρ nm h' w (execOp a.eval o) out := by
  have hev : ∀ x s, evalS sl x = some s → s.Rel env ρ (a.eval x) := fun x s hx => evalS_ok hs hx
  have mv : ∀ {x : Operand}, (valO (ev1 (evalS sl) x)).Run env h out h' → StepOk P env w0 ρ nm h' w (pure (.value (a.eval x))) out := by
    intro x hh
    simp only [valO_run, ev1, run_ofOpt] at hh
    obtain ⟨s, rfl, h1, rfl⟩ := hh
    exact ⟨_, w, ρ, rfl, PMap.le_refl ρ, fun n hn => .inl hn, H, _, rfl, hev _ _ h1⟩
  obtain ⟨dst, op, type, pos, after, guard⟩ := o
  cases op <;> simp only [opS] at he <;> (try (exact he.elim)) <;> simp only [execOp]
  case move x => exact mv he
  case assign x => exact mv he
  case pick c x y =>
    simp only [run_bind, ev1, run_ofOpt] at he
    obtain ⟨s, _, ⟨h1, rfl⟩, he⟩ := he
    split at he
    · rename_i e
      simp only [run_bind, run_decE] at he
      obtain ⟨b, _, ⟨hb, rfl⟩, he⟩ := he
      have hr := hev _ _ h1
      simp only [SV.Rel] at hr
      rw [hr]
      obtain ⟨n, w', ρ', g1, g2⟩ := mv he
      refine ⟨n, w', ρ', ?_, g2⟩
      rw [← g1]
      simp only [asBool, Sem.run_bind, Sem.run_pure, Result.andThen_ok, hb]
      cases b <;> rfl
    · exact he.elim
  case alloc t =>
    obtain ⟨x, rfl, he'⟩ := valO_run.1 he; clear he; have he := he'; clear he'
    exact (allocS_ok H he).value
  case box t x =>
    obtain ⟨r, rfl, he'⟩ := valO_run.1 he; clear he; have he := he'; clear he'
    simp only [run_bind, ev1, run_ofOpt] at he
    obtain ⟨s, _, ⟨h1, rfl⟩, he⟩ := he
    exact (boxS_ok H (hev _ _ h1) he).value
  case build t parts =>
    obtain ⟨r, rfl, he'⟩ := valO_run.1 he; clear he; have he := he'; clear he'
    simp only [run_bind] at he
    obtain ⟨l, _, h1, he⟩ := he
    obtain ⟨rfl, h2⟩ := evp_ok hev h1
    exact (buildS_ok H (by simpa using h2) he).value
  case buildSlice t n parts =>
    obtain ⟨r, rfl, he'⟩ := valO_run.1 he; clear he; have he := he'; clear he'
    simp only [run_bind] at he
    obtain ⟨l, _, h1, he⟩ := he
    obtain ⟨rfl, h2⟩ := evp_ok hev h1
    exact (buildSliceS_ok H (by simpa using h2) he).value
  case load t x =>
    obtain ⟨r, rfl, he'⟩ := valO_run.1 he; clear he; have he := he'; clear he'
    simp only [run_bind, ev1, run_ofOpt] at he
    obtain ⟨s, _, ⟨h1, rfl⟩, he⟩ := he
    exact (loadS_ok H (hev _ _ h1) he).value
  case store t x y =>
    simp only [run_bind, ev1, run_ofOpt, run_pure] at he
    obtain ⟨s, _, ⟨h1, rfl⟩, v, _, ⟨h2, rfl⟩, _, _, he, rfl, rfl⟩ := he
    obtain ⟨w', g1, g2⟩ := storeS_ok H (hev _ _ h1) (hev _ _ h2) he
    exact ⟨.skip, w', ρ, by simp only [Sem.run_bind, g1, Result.andThen_ok, Sem.run_pure], PMap.le_refl ρ, fun n hn => .inl hn, g2, rfl⟩
  case nilCheck x =>
    obtain ⟨r, rfl, he'⟩ := valO_run.1 he; clear he; have he := he'; clear he'
    simp only [run_bind, ev1, run_ofOpt] at he
    obtain ⟨s, _, ⟨h1, rfl⟩, he⟩ := he
    have hr := hev _ _ h1
    have fin : (∀ v, v = a.eval x → (v ≠ .pointer none ∧ v ≠ .nilIface ∧ v ≠ .nilFunc ∧ ∀ n f c, v ≠ .func (.method n) f c)) → r.Rel env ρ (a.eval x) →
        StepOk P env w0 ρ nm h w (match a.eval x with
          | .pointer none | .nilIface | .nilFunc => runtimePanic .nilDeref
          | .func (.method name) first captured =>
            match (first[0]? : Option Value) with
            | some .nilIface => runtimePanic .nilDeref
            | some (.iface t w) => do
              if (← nilAhead ((← program).types.size + Made.depth) t w name) != some false then
                unsupported (.noEntry "op/nilCheck.the method's receiver behind this interface value is a nil pointer, or cannot be seen to be none, and the arguments act or may panic (ledger 612)")
              pure (.value (.func (.method name) first captured))
            | _ => pure (.value (.func (.method name) first captured))
          | x => pure (.value x)) (.val r) := by
      intro hc hr
      obtain ⟨c1, c2, c3, c4⟩ := hc _ rfl
      generalize a.eval x = v at *
      refine ⟨.value v, w, ρ, ?_, PMap.le_refl ρ, fun n hn => .inl hn, H, v, rfl, hr⟩
      split <;> first
        | exact absurd rfl c1
        | exact absurd rfl c2
        | exact absurd rfl c3
        | exact absurd rfl (c4 _ _ _)
        | rfl
    split at he
    · simp only [run_pure] at he
      obtain ⟨rfl, rfl⟩ := he
      refine fin (fun v hv => ?_) hr
      subst hv
      simp only [SV.Rel] at hr
      obtain ⟨p, _, hr⟩ := hr
      rw [hr]
      exact ⟨by simp, by simp, by simp, by simp⟩
    · simp only [run_pure] at he
      obtain ⟨rfl, rfl⟩ := he
      refine fin (fun v hv => ?_) hr
      subst hv
      simp only [SV.Rel] at hr
      obtain ⟨p, hr⟩ := hr
      rw [hr]
      exact ⟨by simp, by simp, by simp, by simp⟩
    · simp only [run_pure] at he
      obtain ⟨rfl, rfl⟩ := he
      refine fin (fun v hv => ?_) hr
      subst hv
      simp only [SV.Rel] at hr
      obtain ⟨p, hr, _⟩ := hr
      rw [hr]
      exact ⟨by simp, by simp, by simp, by simp⟩
    · simp only [run_pure] at he
      obtain ⟨rfl, rfl⟩ := he
      refine fin (fun v hv => ?_) hr
      subst hv
      simp only [SV.Rel] at hr
      obtain ⟨p, q, hr, _⟩ := hr
      rw [hr]
      exact ⟨by simp, by simp, by simp, by simp⟩
    · rename_i mname t xx c
      simp only [run_bind, run_inf, run_ofOpt, run_must, run_pure] at he
      obtain ⟨ti, _, ⟨hi, rfl⟩, m, _, ⟨hm, rfl⟩, _, _, ⟨hpath, rfl⟩, _, _, ⟨hby, rfl⟩, rfl, rfl⟩ := he
      have hp : m.path = #[] := by simpa using hpath
      have hr' := hr
      simp only [SV.Rel, SV.Rels] at hr'
      obtain ⟨xs, ys, hv, ⟨_, _, rfl, ⟨z, rfl, hz⟩, rfl⟩, hys⟩ := hr'
      obtain ⟨k, hk⟩ : ∃ k, P.types.size + Made.depth = k + 1 := ⟨P.types.size + 99, rfl⟩
      have hna : (nilAhead (P.types.size + Made.depth) t z mname).run P w = .ok (some false) w := by
        rw [hk]
        cases hf : m.func with
        | none => rw [hf] at hby; cases hby
        | some q =>
          obtain ⟨f, b⟩ := q
          cases b with
          | false => rw [hf] at hby; cases hby
          | true => simp only [nilAhead, Sem.run_bind, s_inf hi, Result.andThen_ok, hm, hp, Array.toList_empty, followBlind, Sem.run_pure, hf]
      refine ⟨.value (a.eval x), w, ρ, ?_, PMap.le_refl ρ, fun n hn => .inl hn, H, _, rfl, hr⟩
      rw [hv]
      have e0 : ([Value.iface t z].toArray[0]? : Option Value) = some (.iface t z) := rfl
      simp only [e0, Sem.run_bind, run_program, Result.andThen_ok, hna, Sem.run_pure]
      rfl
    · exact he.elim
  case binOp op t x y yt =>
    obtain ⟨r, rfl, he'⟩ := valO_run.1 he; clear he; have he := he'; clear he'
    simp only [run_bind, ev1, run_ofOpt] at he
    obtain ⟨s, _, ⟨h1, rfl⟩, v, _, ⟨h2, rfl⟩, _, _, h3, he⟩ := he
    obtain ⟨rfl, h4⟩ := guardS_ok (P := P) (w := w) (t := t) (hev _ _ h1) (hev _ _ h2) h3
    refine SemOk.value ?_
    obtain ⟨u, w', ρ', g1, g2⟩ := binS_ok (nm := nm) H (hev _ _ h1) (hev _ _ h2) he
    exact ⟨u, w', ρ', by simp only [Sem.run_bind, h4, Result.andThen_ok]; exact g1, g2⟩
  case unOp op t x =>
    obtain ⟨r, rfl, he'⟩ := valO_run.1 he; clear he; have he := he'; clear he'
    simp only [run_bind, ev1, run_ofOpt] at he
    obtain ⟨s, _, ⟨h1, rfl⟩, he⟩ := he
    exact (unS_ok H (hev _ _ h1) he).value
  case convert s d x =>
    obtain ⟨r, rfl, he'⟩ := valO_run.1 he; clear he; have he := he'; clear he'
    simp only [run_bind, ev1, run_ofOpt] at he
    obtain ⟨s, _, ⟨h1, rfl⟩, he⟩ := he
    exact (convS_ok H (hev _ _ h1) he).value
  case makeInterface t x =>
    obtain ⟨r, rfl, he'⟩ := valO_run.1 he; clear he; have he := he'; clear he'
    simp only [run_bind, ev1, run_ofOpt] at he
    obtain ⟨s, _, ⟨h1, rfl⟩, he⟩ := he
    exact (ifaceS_ok H (hev _ _ h1) he).value
  case makeFunc fn first cap =>
    obtain ⟨r, rfl, he'⟩ := valO_run.1 he; clear he; have he := he'; clear he'
    simp only [run_bind, run_pure] at he
    obtain ⟨l1, _, h1, l2, _, h2, rfl, rfl⟩ := he
    obtain ⟨rfl, h3⟩ := evs_ok hev h1
    obtain ⟨rfl, h4⟩ := evs_ok hev h2
    have e1 : first.map a.eval = (first.toList.map a.eval).toArray := by apply Array.ext'; simp
    have e2 : cap.map a.eval = (cap.toList.map a.eval).toArray := by apply Array.ext'; simp
    refine SemOk.value (SemOk.same H (v := .func fn (first.toList.map a.eval).toArray (cap.toList.map a.eval).toArray) ?_ ⟨_, _, rfl, h3, h4⟩)
    rw [e1, e2]
    rfl
  case slice t x lo hi mx =>
    cases mx with
    | some _ => exact he.elim
    | none =>
      obtain ⟨r, rfl, he'⟩ := valO_run.1 he; clear he; have he := he'; clear he'
      simp only [run_bind, ev1, run_ofOpt] at he
      obtain ⟨s, _, ⟨h1, rfl⟩, l, _, h2, hh, _, h3, he⟩ := he
      obtain ⟨rfl, h4⟩ := evo_ok hev h2
      obtain ⟨rfl, h5⟩ := evo_ok hev h3
      exact (sliceS_ok H (hev _ _ h1) h4 h5 he).value
  case fieldAddr t x f =>
    obtain ⟨r, rfl, he'⟩ := valO_run.1 he; clear he; have he := he'; clear he'
    simp only [run_bind, ev1, run_ofOpt] at he
    obtain ⟨s, _, ⟨h1, rfl⟩, he⟩ := he
    exact (fieldS_ok H (hev _ _ h1) he).value
  case field t x f =>
    obtain ⟨r, rfl, he'⟩ := valO_run.1 he; clear he; have he := he'; clear he'
    simp only [run_bind, ev1, run_ofOpt] at he
    obtain ⟨s, _, ⟨h1, rfl⟩, he⟩ := he
    exact (fieldV_ok H (hev _ _ h1) he).value
  case indexAddr t x i =>
    obtain ⟨r, rfl, he'⟩ := valO_run.1 he; clear he; have he := he'; clear he'
    simp only [run_bind, ev1, run_ofOpt] at he
    obtain ⟨s, _, ⟨h1, rfl⟩, v, _, ⟨h2, rfl⟩, he⟩ := he
    exact (indexS_ok H (hev _ _ h1) (hev _ _ h2) he).value
  case index t x i =>
    obtain ⟨r, rfl, he'⟩ := valO_run.1 he; clear he; have he := he'; clear he'
    simp only [run_bind, ev1, run_ofOpt] at he
    obtain ⟨s, _, ⟨h1, rfl⟩, v, _, ⟨h2, rfl⟩, he⟩ := he
    exact (indexV_ok H (hev _ _ h1) (hev _ _ h2) he).value
  case makeChan t s =>
    obtain ⟨r, rfl, he'⟩ := valO_run.1 he; clear he; have he := he'; clear he'
    simp only [run_bind, ev1, run_ofOpt] at he
    obtain ⟨s, _, ⟨h1, rfl⟩, he⟩ := he
    exact (makeChanS_ok H (hev _ _ h1) he).value
  case makeMap t rr =>
    obtain ⟨r, rfl, he'⟩ := valO_run.1 he; clear he; have he := he'; clear he'
    simp only [run_bind] at he
    obtain ⟨l, _, h2, he⟩ := he
    obtain ⟨rfl, h4⟩ := evo_ok hev h2
    exact (makeMapS_ok H h4 he).value
  case lookup t x i ok =>
    obtain ⟨r, rfl, he'⟩ := valO_run.1 he; clear he; have he := he'; clear he'
    simp only [run_bind, ev1, run_ofOpt] at he
    obtain ⟨s, _, ⟨h1, rfl⟩, v, _, ⟨h2, rfl⟩, he⟩ := he
    exact (lookupS_ok H (hev _ _ h1) (hev _ _ h2) he).value
  case mapUpdate t m k x =>
    simp only [run_bind, ev1, run_ofOpt, run_pure] at he
    obtain ⟨s1, _, ⟨h1, rfl⟩, s2, _, ⟨h2, rfl⟩, s3, _, ⟨h3, rfl⟩, _, _, he, rfl, rfl⟩ := he
    obtain ⟨w', g1, g2⟩ := updateS_ok H (hev _ _ h1) (hev _ _ h2) (hev _ _ h3) he
    exact ⟨.skip, w', ρ, by simp only [Sem.run_bind, g1, Result.andThen_ok, Sem.run_pure], PMap.le_refl ρ, fun n hn => .inl hn, g2, rfl⟩
  case insert t m k x =>
    simp only [run_bind, ev1, run_ofOpt, run_pure] at he
    obtain ⟨s1, _, ⟨h1, rfl⟩, s2, _, ⟨h2, rfl⟩, s3, _, ⟨h3, rfl⟩, _, _, he, rfl, rfl⟩ := he
    obtain ⟨w', g1, g2⟩ := updateS_ok H (hev _ _ h1) (hev _ _ h2) (hev _ _ h3) he
    exact ⟨.skip, w', ρ, by simp only [Sem.run_bind, g1, Result.andThen_ok, Sem.run_pure], PMap.le_refl ρ, fun n hn => .inl hn, g2, rfl⟩
  case typeAssert x xt t ok =>
    obtain ⟨r, rfl, he'⟩ := valO_run.1 he; clear he; have he := he'; clear he'
    simp only [run_bind, ev1, run_ofOpt] at he
    obtain ⟨s, _, ⟨h1, rfl⟩, he⟩ := he
    exact (assertS_ok H (hev _ _ h1) he).value
  case extract x i =>
    obtain ⟨r, rfl, he'⟩ := valO_run.1 he; clear he; have he := he'; clear he'
    simp only [run_bind, ev1, run_ofOpt] at he
    obtain ⟨s, _, ⟨h1, rfl⟩, he⟩ := he
    split at he
    · simp only [run_ofOpt] at he
      obtain ⟨h2, rfl⟩ := he
      have hr := hev _ _ h1
      simp only [SV.Rel] at hr
      obtain ⟨vs, hr, hvs⟩ := hr
      obtain ⟨u, h3, h4⟩ := hvs.get h2
      rw [hr]
      refine SemOk.value (SemOk.same H ?_ h4)
      simp [Instr.extract, h3]
    · exact he.elim
  case call c => exact callS_ok hP H hev he
  case defer c => exact deferS_ok H hev he

end
end Go.Sx
