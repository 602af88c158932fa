/-
  SX, PART 27: a loop's contract, computed: heads, paths and what is left to show.
-/
import Derived.Test.YtckdphmpafopmaaSxFrz
namespace Go.Sx
open Go.RowKit
set_option linter.unusedVariables false
set_option linter.unusedSimpArgs false

section
variable (pr : Nat → E) (okv : Nat → Bool) (σ : Nat → Nat)
def entOvC (sl : List SV) : List (Nat × SV) → Option (List Ob)
  | [] => some []
  | (j, y) :: r => match nth sl j with | some x => obl2 (entC pr okv σ x y) (entOvC sl r) | none => none
def entHpC (hL : CHeap) : CHeap → Option (List Ob)
  | [] => some []
  | (n, o') :: r => match cget hL (σ n) with | some o => obl2 (objC pr okv σ o o') (entHpC hL r) | none => none
end
section
variable {e e' : Env} {pr : Nat → E} {okv : Nat → Bool} {σ : Nat → Nat}
theorem entOvC_ok (hn : Nexts e e' pr okv) {sl : List SV} : ∀ {ov : List (Nat × SV)} {l : List Ob}, entOvC pr okv σ sl ov = some l → AllT e l → entOv e e' σ sl ov
  | [], _, _, _ => trivial
  | (j, y) :: r, l, h, ht => by
    simp only [entOvC] at h
    unfold entOv
    cases hx : nth sl j with
    | none => rw [hx] at h; cases h
    | some x =>
      rw [hx] at h
      obtain ⟨l1, l2, h1, h2, rfl⟩ := obl2_some h
      obtain ⟨t1, t2⟩ := allT_append.1 ht
      exact ⟨entC_ok hn h1 t1, entOvC_ok hn h2 t2⟩
theorem entHpC_ok (hn : Nexts e e' pr okv) {hL : CHeap} : ∀ {hp : CHeap} {l : List Ob}, entHpC pr okv σ hL hp = some l → AllT e l → entHp e e' σ hL hp
  | [], _, _, _ => trivial
  | (j, y) :: r, l, h, ht => by
    simp only [entHpC] at h
    unfold entHp
    cases hx : cget hL (σ j) with
    | none => rw [hx] at h; cases h
    | some x =>
      rw [hx] at h
      obtain ⟨l1, l2, h1, h2, rfl⟩ := obl2_some h
      obtain ⟨t1, t2⟩ := allT_append.1 ht
      exact ⟨objC_ok hn h1 t1, entHpC_ok hn h2 t2⟩
end

/-- A head's whole frame: known slots, forgotten ones, and those that stay. -/
def stays (vB : Nat) (ex : List Nat) : Nat → Nat → List (Nat × SV)
  | _, 0 => []
  | j, n + 1 => cond (inL j ex) (stays vB ex (j + 1) n) ((j, .val (vB + j) (.il 0)) :: stays vB ex (j + 1) n)
def topsL (js : List Nat) : List (Nat × SV) := js.map fun j => (j, .top)
def fullOv (vB N : Nat) (js : List Nat) (ov : List (Nat × SV)) : List (Nat × SV) := ov ++ (topsL js ++ stays vB (js ++ ov.map (·.1)) 0 N)
theorem ovGet_append : ∀ {a b : List (Nat × SV)} {j : Nat}, ovGet (a ++ b) j = match ovGet a j with | some x => some x | none => ovGet b j
  | [], b, j => rfl
  | (i, x) :: r, b, j => by
    simp only [List.cons_append, ovGet]
    cases hb : Nat.beq i j with
    | true => rfl
    | false => simp only [cond_false]; exact ovGet_append
theorem ovGet_tops : ∀ {js : List Nat} {j : Nat} {x : SV}, ovGet (topsL js) j = some x → x = .top
  | [], j, x, h => by cases h
  | i :: r, j, x, h => by
    simp only [topsL, List.map_cons, ovGet] at h
    cases hb : Nat.beq i j with
    | true => rw [hb] at h; simp only [cond_true, Option.some.injEq] at h; exact h.symm
    | false => rw [hb] at h; exact ovGet_tops (js := r) h
theorem ovGet_stays {vB : Nat} {ex : List Nat} : ∀ {n j i : Nat} {x : SV}, ovGet (stays vB ex i n) j = some x → x = .val (vB + j) (.il 0)
  | 0, j, i, x, h => by cases h
  | n + 1, j, i, x, h => by
    simp only [stays] at h
    cases hx : inL i ex with
    | true => rw [hx] at h; exact ovGet_stays (n := n) h
    | false =>
      rw [hx] at h
      simp only [cond_false, ovGet] at h
      cases hb : Nat.beq i j with
      | true => rw [hb] at h; obtain rfl := Nat.eq_of_beq_eq_true hb; simp only [cond_true, Option.some.injEq] at h; exact h.symm
      | false => rw [hb] at h; exact ovGet_stays (n := n) h
theorem ovGet_mem : ∀ {l : List (Nat × SV)} {j : Nat}, j ∈ l.map (·.1) → ∃ x, ovGet l j = some x
  | [], j, h => by simp at h
  | (i, x) :: r, j, h => by
    simp only [List.map_cons, List.mem_cons] at h
    unfold ovGet
    cases hb : Nat.beq i j with
    | true => exact ⟨x, rfl⟩
    | false =>
      rcases h with h | h
      · subst h; simp at hb
      · exact ovGet_mem h

theorem rels_full {vB : Nat} {env : Env} {ρ : PMap} {ov : List (Nat × SV)} {u0 u : Nat → Value} {N : Nat} {js : List Nat} {vs : List Value} (h : SV.Rels env ρ (mkSl ov u0 0 N) vs) (hu : ∀ j, j < N → vs[j]? = some (u0 j)) (hv : ∀ j, j < N → env.val (vB + j) 0 = u0 j)
    (huu : ∀ j, j < N → u j = u0 j) : SV.Rels env ρ (mkSl (fullOv vB N js ov) u 0 N) vs := by
  have hl : vs.length = N := by rw [h.length, mkSl_length]
  refine rels_of_get (by rw [hl, mkSl_length]) (fun j x v hx hv' => ?_)
  have hj : j < N := by
    have := (List.getElem?_eq_some_iff.1 hx).1
    rw [mkSl_length] at this; exact this
  rw [mkSl_get N 0 j hj, Nat.zero_add] at hx
  injection hx with hx
  obtain ⟨v2, hv2, hr⟩ := sl_of_mk h hj
  rw [hv'] at hv2; injection hv2 with hv2; subst hv2
  unfold fullOv at hx
  rw [ovGet_append] at hx
  cases ho : ovGet ov j with
  | some y => rw [ho] at hx hr; simp only at hx hr; subst hx; exact hr
  | none =>
    rw [ho] at hx hr
    simp only at hx hr
    rw [ovGet_append] at hx
    cases ht : ovGet (topsL js) j with
    | some y => rw [ht] at hx; simp only at hx; rw [ovGet_tops ht] at hx; subst hx; trivial
    | none =>
      rw [ht] at hx
      simp only at hx
      cases hs : ovGet (stays vB (js ++ ov.map (·.1)) 0 N) j with
      | some y =>
        rw [hs] at hx
        simp only at hx
        rw [ovGet_stays hs] at hx
        subst hx
        show v = env.val (vB + j) 0
        rw [hv j hj, hr]
      | none =>
        rw [hs] at hx
        simp only at hx
        subst hx
        show v = u j
        rw [huu j hj, hr]

/-- What is asked of a path that goes on. -/
def turnObl (pr : Nat → E) (okv : Nat → Bool) (q : Leaf) (H : Head) (l : List (Nat × Nat)) (fixed : List Nat) : Option (List Ob) :=
  cond (allDiff (l.map (·.2)) && l.all (fun x => Nat.blt x.1 H.m && Nat.blt x.2 q.nx) && q.fr.df.isEmpty && fixed.all (fun k => Nat.beq (sig l q.nx k) k))
    (obl2 (entOvC pr okv (sig l q.nx) q.fr.sl H.ov) (entHpC pr okv (sig l q.nx) q.h H.h)) none
theorem turnObl_ok {e e' : Env} {pr : Nat → E} {okv : Nat → Bool} (hn : Nexts e e' pr okv) {q : Leaf} {H : Head} {l : List (Nat × Nat)} {fixed : List Nat} {u : Nat → Value} {es : List Ob} (h : turnObl pr okv q H l fixed = some es) (ht : AllT e es) : Turns e e' q H l [] fixed u := by
  unfold turnObl at h
  cases hc : (allDiff (l.map (·.2)) && l.all (fun x => Nat.blt x.1 H.m && Nat.blt x.2 q.nx) && q.fr.df.isEmpty && fixed.all (fun k => Nat.beq (sig l q.nx k) k)) with
  | false => rw [hc] at h; cases h
  | true =>
    rw [hc] at h
    simp only [cond_true] at h
    obtain ⟨l1, l2, h1, h2, rfl⟩ := obl2_some h
    obtain ⟨t1, t2⟩ := allT_append.1 ht
    simp only [Bool.and_eq_true] at hc
    obtain ⟨⟨⟨c1, c2⟩, c3⟩, c4⟩ := hc
    exact ⟨entOvC_ok hn h1 t1, entHpC_ok hn h2 t2, c1, c2, by simpa using c3, fun j hj => (by cases hj), fun k hk => Nat.eq_of_beq_eq_true (List.all_eq_true.1 c4 k hk)⟩

def fullH (vB N : Nat) (js : List Nat) (H : Head) : Head := ⟨fullOv vB N js H.ov, H.h, H.m, H.fs⟩
/-- The same head, of which other things are known. -/
structure SameH (H' H : Head) : Prop where
  ov : H'.ov = H.ov
  h : H'.h = H.h
  m : H'.m = H.m
theorem SameH.refl (H : Head) : SameH H H := ⟨rfl, rfl, rfl⟩
theorem SameH.full {H' H : Head} (k : SameH H' H) (vB N : Nat) (js : List Nat) : SameH (fullH vB N js H') (fullH vB N js H) := ⟨by unfold fullH; simp only; rw [k.ov], k.h, k.m⟩
theorem SameH.turns {e e' : Env} {q : Leaf} {H H' : Head} {l : List (Nat × Nat)} {keep fixed : List Nat} {u : Nat → Value} (k : SameH H' H) (T : Turns e e' q H l keep fixed u) : Turns e e' q H' l keep fixed u :=
  ⟨by rw [k.ov]; exact T.ov, by rw [k.h]; exact T.hp, T.inj, by rw [k.m]; exact T.lt, T.df, T.keep, T.fixed⟩
def exSame : SExit → SExit → Bool
  | .normal, .normal => true
  | .exit a, .exit b => Nat.beq a b
  | .ret, .ret => true
  | _, _ => false
theorem exSame_eq {a b : SExit} (h : exSame a b = true) : a = b := by
  cases a <;> cases b <;> simp only [exSame] at h <;> first
    | rfl
    | (cases h; done)
    | (rw [Nat.eq_of_beq_eq_true h]; done)

theorem ovGet_full {vB N : Nat} {js : List Nat} {ov : List (Nat × SV)} {j : Nat} (hj : j < N) : ∃ x, ovGet (fullOv vB N js ov) j = some x := by
  have hs : ∀ {ex : List Nat} {n i : Nat}, j ∉ ex → i ≤ j → j < i + n → ∃ x, ovGet (stays vB ex i n) j = some x := by
    intro ex n
    induction n with
    | zero => intro i _ h1 h2; omega
    | succ n ih =>
      intro i hex h1 h2
      simp only [stays]
      cases hx : inL i ex with
      | true =>
        have : i ≠ j := fun e => hex (by rw [← e]; exact inL_iff.1 hx)
        exact ih hex (by omega) (by omega)
      | false =>
        simp only [cond_false, ovGet]
        cases hb : Nat.beq i j with
        | true => exact ⟨_, rfl⟩
        | false =>
          have : i ≠ j := fun e => by subst e; simp at hb
          exact ih hex (by omega) (by omega)
  unfold fullOv
  rw [ovGet_append]
  cases ho : ovGet ov j with
  | some x => exact ⟨x, rfl⟩
  | none =>
    simp only
    rw [ovGet_append]
    cases ht : ovGet (topsL js) j with
    | some x => exact ⟨x, rfl⟩
    | none =>
      refine hs (fun hm => ?_) (Nat.zero_le _) (by omega)
      rcases List.mem_append.1 hm with h1 | h1
      · obtain ⟨x, hx⟩ := ovGet_mem (l := topsL js) (j := j) (by simpa [topsL] using h1)
        rw [hx] at ht; cases ht
      · obtain ⟨x, hx⟩ := ovGet_mem h1
        rw [hx] at ho; cases ho

theorem mkSl_indep {vB N : Nat} {js : List Nat} {ov : List (Nat × SV)} (u u' : Nat → Value) : mkSl (fullOv vB N js ov) u 0 N = mkSl (fullOv vB N js ov) u' 0 N := by
  apply List.ext_getElem?
  intro i
  by_cases hi : i < N
  · rw [mkSl_get N 0 i hi, mkSl_get N 0 i hi, Nat.zero_add]
    obtain ⟨x, hx⟩ := ovGet_full (vB := vB) (js := js) (ov := ov) hi
    rw [hx]
  · rw [List.getElem?_eq_none (by rw [mkSl_length]; omega), List.getElem?_eq_none (by rw [mkSl_length]; omega)]


/-! ### names: found by what is alike -/
def addP (m n : Nat) (l : List (Nat × Nat)) : List (Nat × Nat) := cond (l.any fun x => Nat.beq x.1 m) l ((m, n) :: l)
mutual
def mtch : SV → SV → List (Nat × Nat) → List (Nat × Nat)
  | .ptr n _, .ptr m _, l => addP m n l
  | .sl n _ _ _, .sl m _ _ _, l => addP m n l
  | .map n, .map m, l => addP m n l
  | .chan n, .chan m, l => addP m n l
  | .ifc _ x, .ifc _ y, l => mtch x y l
  | .agg a, .agg b, l => mtchs a b l
  | .tup a, .tup b, l => mtchs a b l
  | .fn _ a c, .fn _ b d, l => mtchs c d (mtchs a b l)
  | _, _, l => l
def mtchs : List SV → List SV → List (Nat × Nat) → List (Nat × Nat)
  | x :: a, y :: b, l => mtchs a b (mtch x y l)
  | _, _, l => l
end
def mtchN : List Nat → List Nat → List (Nat × Nat) → List (Nat × Nat)
  | n :: a, m :: b, l => mtchN a b (addP m n l)
  | _, _, l => l
def mtchO : SObj → SObj → List (Nat × Nat) → List (Nat × Nat)
  | .cells _ a, .cells _ b, l => mtchs a b l
  | .abs _ _ a, .abs _ _ b, l => mtchN a b l
  | _, _, l => l
def mtchOv (sl : List SV) : List (Nat × SV) → List (Nat × Nat) → List (Nat × Nat)
  | [], l => l
  | (j, y) :: r, l => mtchOv sl r (match nth sl j with | some x => mtch x y l | none => l)
def findN (m : Nat) : List (Nat × Nat) → Option Nat
  | [] => none
  | (a, b) :: r => cond (Nat.beq a m) (some b) (findN m r)
def passP : CHeap → List (Nat × Nat) → Prog (List (Nat × Nat))
  | [], l => .ret l
  | (m, o') :: r, l =>
    match findN m l with
    | none => passP r l
    | some n => .get n fun o => passP r (mtchO o o' l)
def autoP (sl : List SV) (H : Head) : Prog (List (Nat × Nat)) := do
  let l ← passP H.h (mtchOv sl H.ov [])
  let l ← passP H.h l
  passP H.h l
def autoL (q : Leaf) (H : Head) : Option (List (Nat × Nat)) :=
  match (autoP q.fr.sl H).run [] q.h [] Foot.nil with
  | .ok r => some r.a
  | .error _ => none

/-! ### which mode a state is of: small programs that only look -/
inductive MP where
  | ret (n : Nat)
  | fail
  | get (n : Nat) (k : SObj → MP)
def MP.prog : MP → Prog Nat
  | .ret n => .ret n
  | .fail => .fail "no mode"
  | .get n k => .get n fun o => (k o).prog
def MP.at (h : CHeap) : MP → Option Nat
  | .ret n => some n
  | .fail => none
  | .get n k => match cget h n with | some o => (k o).at h | none => none
theorem MP.prog_heap {env : Env} : ∀ {p : MP} {h h' : Heap} {n : Nat}, p.prog.Run env h n h' → h = h'
  | .ret _, _, _, _, he => he.2
  | .fail, _, _, _, he => he.elim
  | .get _ k, _, _, _, ⟨o, _, he⟩ => MP.prog_heap he

/-! ### a loop, as it is to be computed -/
structure LoopY where
  f : FuncId
  key : Nat
  N : Nat
  r : Nat
  base : Nat
  js : List Nat
  hd : Nat → Head
  ent : Nat → Facts
  app : List SV → Bool
  ok0 : Nat → Bool
  modeL : List SV → MP
  tgt : Nat → Bool
  mf : Nat → Facts
  hx : Nat → Head
  xmL : SExit → List SV → MP
  exN : Nat → SExit
  exits : List (E × Nat)
  fixed : List Nat
  lt : E
  X : XCtr
  fuel : Nat
  np : Nat
  params : List Nat := []
  kds : List (TypeId × DKs) := []

namespace LoopY
def mode (D : LoopY) (sl : List SV) : Prog Nat := (D.modeL sl).prog
theorem modeP (D : LoopY) {env : Env} (sl : List SV) {h h' : Heap} {n : Nat} (he : (D.mode sl).Run env h n h') : h = h' := MP.prog_heap he
def okv (D : LoopY) (c : Nat) : Bool := Nat.blt c D.base || Nat.ble (D.base + 1000) c
def prT (D : LoopY) (n : Nat) : E := cond (Nat.beq n D.r) (.o2 .add (.v n) (.il 1)) (.v n)
def prX (D : LoopY) (n : Nat) : E := cond (Nat.beq n D.r) (.il 0) (.v n)
/-- Without what is known. -/
def pruneO (fs : Facts) : List Ob → List Ob
  | [] => []
  | o :: r => match decideO fs o with
    | some true => pruneO fs r
    | _ => o :: pruneO fs r
theorem pruneO_ok {env : Env} {fs : Facts} (hf : fs.Hold env) : ∀ {l : List Ob}, AllT env (pruneO fs l) → AllT env l
  | [], _ => fun x hx => by cases hx
  | o :: r, h => by
    unfold pruneO at h
    intro x hx
    split at h
    · rename_i hd
      rcases List.mem_cons.1 hx with rfl | hx
      · exact decideO_ok hf hd
      · exact pruneO_ok hf h x hx
    · rcases List.mem_cons.1 hx with rfl | hx
      · exact h _ (List.mem_cons_self ..)
      · exact pruneO_ok hf (fun y hy => h y (List.mem_cons_of_mem _ hy)) x hx

/-- The environment of a round. -/
def env (D : LoopY) (e : Env) (u : Nat → Value) (i : Nat) : Env where
  v n := if n = D.r then .i i else e.v n
  fn := e.fn
  val c z := if D.base ≤ c ∧ c < D.base + 1000 then u (c - D.base) else e.val c z
  mp := e.mp
  uf := e.uf
  ab := e.ab
theorem nextT (D : LoopY) (e : Env) (u : Nat → Value) (i : Nat) : Nexts (D.env e u i) (D.env e u (i + 1)) D.prT (fun _ => true) := by
  refine ⟨fun n => ?_, rfl, fun _ _ _ => rfl, rfl, rfl, rfl⟩
  unfold prT
  cases hb : Nat.beq n D.r with
  | true =>
    obtain rfl := Nat.eq_of_beq_eq_true hb
    simp only [cond_true, E.den, O2.den, env, if_true, Dv.I]
    rfl
  | false =>
    have : n ≠ D.r := fun e => by subst e; simp at hb
    simp only [cond_false, E.den, env, if_neg this]
theorem okv_out {D : LoopY} {c : Nat} (h : D.okv c = true) : ¬ (D.base ≤ c ∧ c < D.base + 1000) := by
  unfold okv at h
  rw [Bool.or_eq_true] at h
  rcases h with h | h
  · unfold Nat.blt at h; have := Nat.le_of_ble_eq_true h; omega
  · have := Nat.le_of_ble_eq_true h; omega
/-- From a round to none. -/
theorem nextZ (D : LoopY) (e : Env) (u : Nat → Value) (i : Nat) : Nexts (D.env e u i) (D.env e u 0) D.prX (fun _ => true) := by
  refine ⟨fun n => ?_, rfl, fun _ _ _ => rfl, rfl, rfl, rfl⟩
  unfold prX
  cases hb : Nat.beq n D.r with
  | true => obtain rfl := Nat.eq_of_beq_eq_true hb; simp only [cond_true, E.den, env, if_true]; rfl
  | false =>
    have : n ≠ D.r := fun e => by subst e; simp at hb
    simp only [cond_false, E.den, env, if_neg this]
/-- What the loop's own variables are, seen from around it. -/
def prE (θ : List (Nat × E)) (n : Nat) : E :=
  match θ with
  | [] => .v n
  | (p, a) :: r => cond (Nat.beq p n) a (prE r n)
def withP (e : Env) (θ : List (Nat × E)) : Env := { e with v := fun n => (prE θ n).den e }
theorem prE_no {θ : List (Nat × E)} {n : Nat} (h : n ∉ θ.map (·.1)) : prE θ n = .v n := by
  induction θ with
  | nil => rfl
  | cons x r ih =>
    obtain ⟨p, a⟩ := x
    simp only [List.map_cons, List.mem_cons, not_or] at h
    unfold prE
    have : Nat.beq p n = false := by rw [Bool.eq_false_iff]; intro he; exact h.1 (Nat.eq_of_beq_eq_true he).symm
    rw [this]
    exact ih h.2
theorem nextP (e : Env) (θ : List (Nat × E)) : Nexts e (withP e θ) (prE θ) (fun _ => true) := ⟨fun _ => rfl, rfl, fun _ _ _ => rfl, rfl, rfl, rfl⟩
theorem nextE (D : LoopY) {e : Env} {θ : List (Nat × E)} (hr : prE θ D.r = .il 0) (u : Nat → Value) : Nexts e (D.env (withP e θ) u 0) (prE θ) D.okv := by
  refine ⟨fun n => ?_, rfl, fun c hc z => ?_, rfl, rfl, rfl⟩
  · simp only [env, withP]
    by_cases h : n = D.r
    · subst h; rw [if_pos rfl, hr]; rfl
    · rw [if_neg h]
  · simp only [env, if_neg (okv_out hc)]; rfl

/-- Facts as obligations. -/
def factsO : Facts → List Ob
  | [] => []
  | (e, true) :: r => .e e :: factsO r
  | (e, false) :: r => .e (notE e) :: factsO r
theorem factsO_ok {env : Env} : ∀ {fs : Facts}, AllT env (factsO fs) → fs.Hold env
  | [], _ => hold_nil
  | (e, true) :: r, h => Facts.hold_cons (h _ (List.mem_cons_self ..)) (factsO_ok fun x hx => h x (List.mem_cons_of_mem _ hx))
  | (e, false) :: r, h => Facts.hold_cons (by
      have : ((notE e).den env).B = true := h _ (List.mem_cons_self ..)
      rw [B_notE] at this
      simpa using this) (factsO_ok fun x hx => h x (List.mem_cons_of_mem _ hx))
def primeF (pr : Nat → E) (fs : Facts) : Facts := fs.map fun x => (x.1.prime pr, x.2)
theorem primeF_ok {e e' : Env} {pr : Nat → E} {okv : Nat → Bool} (hn : Nexts e e' pr okv) {fs : Facts} (h : (primeF pr fs).Hold e) : fs.Hold e' := fun x b hm => by
  have := h (x.prime pr) b (List.mem_map.2 ⟨(x, b), hm, rfl⟩)
  rw [E.prime_den hn] at this
  exact this
def exitObl : List (E × Nat) → Nat → Option (List Ob)
  | [], _ => none
  | (c, ν) :: r, m => cond (Nat.beq ν m) (some (cond (c.same (.bl true)) [] [.e c])) ((exitObl r m).map fun l => .e (notE c) :: l)

theorem exitObl_prime {e e' : Env} {pr : Nat → E} {okv : Nat → Bool} (hn : Nexts e e' pr okv) : ∀ {l : List (E × Nat)} {ν : Nat} {xs : List Ob}, exitObl (l.map fun x => (x.1.prime pr, x.2)) ν = some xs → AllT e xs → ∃ ys, exitObl l ν = some ys ∧ AllT e' ys
  | [], _, _, h, _ => by cases h
  | (c, m) :: r, ν, xs, h, ht => by
    simp only [List.map_cons, exitObl] at h ⊢
    cases hb : Nat.beq m ν with
    | true =>
      rw [hb] at h
      simp only [cond_true, Option.some.injEq] at h
      refine ⟨_, rfl, ?_⟩
      have hc : (c.den e').B = true := by
        rw [← E.prime_den hn]
        cases hs : (c.prime pr).same (.bl true) with
        | true => rw [E.same_eq hs]; rfl
        | false => rw [hs] at h; subst h; exact ht _ (List.mem_singleton.2 rfl)
      intro x hx
      cases hs : c.same (.bl true) with
      | true => rw [hs] at hx; cases hx
      | false => rw [hs] at hx; rw [List.mem_singleton.1 hx]; exact hc
    | false =>
      rw [hb] at h
      simp only [cond_false, Option.map_eq_some_iff] at h ⊢
      obtain ⟨zs, h1, rfl⟩ := h
      obtain ⟨ys, g1, g2⟩ := exitObl_prime hn h1 (fun x hx => ht x (List.mem_cons_of_mem _ hx))
      refine ⟨_, ⟨ys, g1, rfl⟩, fun x hx => ?_⟩
      rcases List.mem_cons.1 hx with rfl | hx
      · have hc : ((notE (c.prime pr)).den e).B = true := ht _ (List.mem_cons_self ..)
        show ((notE c).den e').B = true
        rw [B_notE] at hc ⊢
        rw [← E.prime_den hn]; exact hc
      · exact g2 x hx
def exitsZ (D : LoopY) : List (E × Nat) := D.exits.map fun x => (x.1.prime D.prX, x.2)
def full (D : LoopY) (H : Head) : Head := fullH D.base D.N D.js H

def leafObl (P : Program) (D : LoopY) (nh : Nat) (q : Leaf) : Option (Facts × List Ob) :=
  cond (Nat.beq q.fr.sl.length D.N)
    (match q.ex with
    | .normal =>
      match (D.modeL q.fr.sl).at q.h with
      | some μ' =>
        match autoL q (D.hd μ') with
        | some l =>
          match q.thawFor P (D.hd μ').ov (D.hd μ').h l with
          | some (q', ob) => cond (D.tgt μ') ((turnObl D.prT (fun _ => true) q' (D.full (D.hd μ')) l D.fixed).map fun es => (q.fs.take (q.fs.length - nh), pruneO q.fs (.e D.lt :: (factsO (primeF D.prT (D.mf μ')) ++ (q.vcs ++ (ob ++ es)))))) none
          | none => none
        | none => none
      | none => none
    | ex =>
      match (D.xmL ex q.fr.sl).at q.h with
      | some ν =>
        match autoL q (D.hx ν), exitObl D.exitsZ ν with
        | some l, some xs =>
          match q.thawFor P (D.hx ν).ov (D.hx ν).h l with
          | some (q', ob) => cond (exSame ex (D.exN ν)) ((turnObl D.prX (fun _ => true) q' (D.full (D.hx ν)) l D.fixed).map fun es => (q.fs.take (q.fs.length - nh), pruneO q.fs (xs ++ (q.vcs ++ (ob ++ es))))) none
          | none => none
        | _, _ => none
      | none => none) none
def allObl (P : Program) (D : LoopY) (nh : Nat) : List Leaf → Option (List (Facts × List Ob))
  | [] => some []
  | q :: r =>
    match D.leafObl P nh q, D.allObl P nh r with
    | some x, some l => some (x :: l)
    | _, _ => none
def paths (P : Program) (D : LoopY) (μ : Nat) : Ex (List Leaf) :=
  exploreF P D.X D.fuel (.code D.f (theLoop P D.f D.key) ⟨mkSl (D.full (D.hd μ)).ov (fun _ => .nilIface) 0 D.N, []⟩) (D.hd μ).h (D.hd μ).m D.np (D.hd μ).fs []
def obl (P : Program) (D : LoopY) (μ : Nat) : Option (List (Facts × List Ob)) :=
  match D.paths P μ with
  | .ok l => cond ((D.hd μ).h.all fun x => headObj x.2) (D.allObl P (D.hd μ).fs.length l) none
  | _ => none

theorem allObl_mem {P : Program} {D : LoopY} {nh : Nat} : ∀ {l : List Leaf} {L : List (Facts × List Ob)}, D.allObl P nh l = some L → ∀ q ∈ l, ∃ x ∈ L, D.leafObl P nh q = some x
  | [], L, _, q, hq => by cases hq
  | p :: r, L, h, q, hq => by
    unfold allObl at h
    split at h
    · rename_i x l hx hl
      injection h with h
      subst h
      rcases List.mem_cons.1 hq with rfl | hq
      · exact ⟨x, List.mem_cons_self .., hx⟩
      · obtain ⟨y, hy, h2⟩ := allObl_mem hl q hq
        exact ⟨y, List.mem_cons_of_mem _ hy, h2⟩
    · cases h

def leaves (P : Program) (D : LoopY) (μ : Nat) : List Leaf :=
  match D.paths P μ with
  | .ok l => l
  | _ => []

theorem obl_some {P : Program} {D : LoopY} {μ : Nat} {L : List (Facts × List Ob)} (h : D.obl P μ = some L) : D.paths P μ = .ok (D.leaves P μ) ∧ ((D.hd μ).h.all fun x => headObj x.2) = true ∧ D.allObl P (D.hd μ).fs.length (D.leaves P μ) = some L := by
  unfold obl at h
  unfold leaves
  cases hp : D.paths P μ with
  | error e => rw [hp] at h; cases h
  | ok l =>
    rw [hp] at h
    simp only at h ⊢
    cases hb : (D.hd μ).h.all fun x => headObj x.2 with
    | false => rw [hb] at h; cases h
    | true => rw [hb] at h; exact ⟨trivial, rfl, h⟩

/-- A loop whose rounds were computed. -/
theorem comp {P : Program} (hP : Plain P) (hM : P.follows .mixedOrders = true) {D : LoopY} (hbody : ((P.funcs[D.f]?).bind (·.body)).isSome = true) {e : Env} {u : Nat → Value} {A : Anchor} {n : Nat} {mode : Nat → Nat → Prop}
    (hX : ∀ i, i ≤ n → ExtOk P (D.env e u i) A (D.X.toExt P)) {L : Nat → List (Facts × List Ob)} (hob : ∀ i μ, mode i μ → D.obl P μ = some (L μ))
    (hall : ∀ i μ, mode i μ → i ≤ n → ∀ x ∈ L μ, x.1.Hold (D.env e u i) → AllT (D.env e u i) x.2) (hfs : ∀ i μ, mode i μ → i ≤ n → (D.hd μ).fs.Hold (D.env e u i)) (hlt : ∀ i, i ≤ n → (D.lt.den (D.env e u i)).B = true → i < n)
    (hturn : ∀ i μ μ', mode i μ → D.tgt μ' = true → (D.mf μ').Hold (D.env e u (i + 1)) → i + 1 ≤ n → ∃ μ2, mode (i + 1) μ2 ∧ SameH (D.hd μ2) (D.hd μ')) (hxobj : ∀ ν, ((D.hx ν).h.all fun x => headObj x.2) = true)
    {ρ0 : PMap} {u0 : Nat → Value} {a : Act} {w : World} {Q : Exit → Act → World → Prop} {μ0 : Nat} (hm0 : mode 0 μ0)
    (hs : Sat (D.env e u 0) A ρ0 ⟨mkSl (D.full (D.hd μ0)).ov u0 0 D.N, []⟩ (cden (D.hd μ0).h) (D.hd μ0).m a w)
    (hexit : ∀ ν ρ (a' : Act) w', (∃ xs, exitObl D.exits ν = some xs ∧ AllT (D.env e u 0) xs) → ((∀ k ∈ D.fixed, ∀ p, ρ0 k = some p → ρ k = some p) ∧ ∀ b x, ρ0.fz b = some x → ρ.fz b = some x) →
      Sat (D.env e u 0) A ρ ⟨mkSl (D.full (D.hx ν)).ov (fun _ => .nilIface) 0 D.N, []⟩ (cden (D.hx ν).h) (D.hx ν).m a' w' → Q (D.exN ν).den a' w') :
    (Code.loop (theLoop P D.f D.key)).wp P Q a w := by
  -- what a leaf gives
  have leaf : ∀ i μ, mode i μ → ∀ q ∈ D.leaves P μ, ∃ x ∈ L μ, D.leafObl P (D.hd μ).fs.length q = some x := fun i μ hm q hq => allObl_mem (obl_some (hob i μ hm)).2.2 q hq
  have split : ∀ {nh : Nat} {q : Leaf} {x : Facts × List Ob}, D.leafObl P nh q = some x → q.fr.sl.length = D.N ∧ (∀ env, q.fs.Hold env → x.1.Hold env) ∧
      ((q.ex = .normal ∧ ∃ μ' l q' ob es, q.thawFor P (D.hd μ').ov (D.hd μ').h l = some (q', ob) ∧ D.tgt μ' = true ∧ turnObl D.prT (fun _ => true) q' (D.full (D.hd μ')) l D.fixed = some es ∧ x.2 = pruneO q.fs (.e D.lt :: (factsO (primeF D.prT (D.mf μ')) ++ (q.vcs ++ (ob ++ es))))) ∨
       (q.ex ≠ .normal ∧ ∃ ν l q' ob es xs, q.thawFor P (D.hx ν).ov (D.hx ν).h l = some (q', ob) ∧ q.ex = D.exN ν ∧ exitObl D.exitsZ ν = some xs ∧ turnObl D.prX (fun _ => true) q' (D.full (D.hx ν)) l D.fixed = some es ∧ x.2 = pruneO q.fs (xs ++ (q.vcs ++ (ob ++ es))))) := by
    intro nh q x h
    have htk : ∀ env, q.fs.Hold env → Facts.Hold env (q.fs.take (q.fs.length - nh)) := fun env hh e b hm => hh e b (List.mem_of_mem_take hm)
    unfold leafObl at h
    cases hb : Nat.beq q.fr.sl.length D.N with
    | false => rw [hb] at h; cases h
    | true =>
      rw [hb] at h
      simp only [cond_true] at h
      refine ⟨Nat.eq_of_beq_eq_true hb, ?_⟩
      split at h
      · rename_i hex
        split at h
        · rename_i μ' hmu
          split at h
          · rename_i l hl
            split at h
            · rename_i q' ob hth
              cases htg : D.tgt μ' with
              | false => rw [htg] at h; cases h
              | true =>
                rw [htg] at h
                simp only [cond_true, Option.map_eq_some_iff] at h
                obtain ⟨es, h1, rfl⟩ := h
                exact ⟨htk, .inl ⟨hex, μ', l, q', ob, es, hth, htg, h1, rfl⟩⟩
            · cases h
          · cases h
        · cases h
      · rename_i hex
        split at h
        · rename_i ν hnu
          split at h
          · rename_i l xs hl hxs
            split at h
            · rename_i q' ob hth
              cases hsm : exSame q.ex (D.exN ν) with
              | false => rw [hsm] at h; cases h
              | true =>
                rw [hsm] at h
                simp only [cond_true] at h
                rw [Option.map_eq_some_iff] at h
                obtain ⟨es, h1, rfl⟩ := h
                exact ⟨htk, .inr ⟨hex, ν, l, q', ob, es, xs, hth, exSame_eq hsm, hxs, h1, rfl⟩⟩
            · cases h
          · cases h
        · cases h
  refine loop_canon hP hM (inBody_theLoop D.key hbody) (N := D.N) (heads := fun μ => D.full (D.hd μ)) (env := D.env e u) (A := A) (n := n) (mode := mode) (X := D.X) hX (fuel := D.fuel) (np := D.np) (js := [])
    (leaves := fun μ _ => D.leaves P μ) (keep := []) (fixed := D.fixed) (u0 := u0) (ρ0 := ρ0) (fun i μ u hm => ?_) hfs (fun i μ hm => (obl_some (hob i μ hm)).2.1) (fun i μ u hm q hq _ => ?_) (fun i μ u hm hi _ q hq hqf => ?_) (fun i μ u2 ρ a' w' hm hi q hq hqf hex _ hfix hsq => ?_) hm0 hs
  · have := (obl_some (hob i μ hm)).1
    unfold paths at this
    rw [← this]
    show exploreF P D.X D.fuel (.code D.f (theLoop P D.f D.key) ⟨mkSl (fullOv D.base D.N D.js (D.hd μ).ov) u 0 D.N, []⟩) _ _ _ _ _ = exploreF P D.X D.fuel (.code D.f (theLoop P D.f D.key) ⟨mkSl (fullOv D.base D.N D.js (D.hd μ).ov) (fun _ => .nilIface) 0 D.N, []⟩) _ _ _ _ _
    rw [mkSl_indep u (fun _ => .nilIface)]
    rfl
  · obtain ⟨x, _, hx⟩ := leaf i μ hm q hq
    exact (split hx).1
  · obtain ⟨x, hxL, hx⟩ := leaf i μ hm q hq
    obtain ⟨hl, hfx, hc⟩ := split hx
    have ht := hall i μ hm hi x hxL (hfx _ hqf)
    rcases hc with ⟨hex, μ', l, q', ob, es, hth, h1, h2, h3⟩ | ⟨hex, ν, l, q', ob, es, xs, hth, h1, h2, h3, h4⟩
    · rw [h3] at ht
      have ht := pruneO_ok hqf ht
      have t0 := ht _ (List.mem_cons_self ..)
      obtain ⟨tm, ht⟩ := allT_append.1 (fun y hy => ht y (List.mem_cons_of_mem _ hy))
      obtain ⟨t1, t2⟩ := allT_append.1 ht
      obtain ⟨t3, t2⟩ := allT_append.1 t2
      refine ⟨t1, fun _ => ⟨hlt i hi t0, ?_⟩⟩
      obtain ⟨μ2, hm2, hsame⟩ := hturn i μ μ' hm h1 (primeF_ok (D.nextT e _ i) (factsO_ok tm)) (hlt i hi t0)
      exact ⟨μ2, l, q', hm2, Leaf.thawFor_ok hth t3, (hsame.full _ _ _).turns (turnObl_ok (D.nextT e _ i) h2 t2)⟩
    · rw [h4] at ht
      have ht := pruneO_ok hqf ht
      exact ⟨(allT_append.1 (allT_append.1 ht).2).1, fun he => absurd he hex⟩
  · obtain ⟨x, hxL, hx⟩ := leaf i μ hm q hq
    obtain ⟨hl, hfx, hc⟩ := split hx
    have ht := hall i μ hm hi x hxL (hfx _ hqf)
    rcases hc with ⟨hex', _⟩ | ⟨_, ν, l, q', ob, es, xs, hth, h1, h2, h3, h4⟩
    · exact absurd hex' hex
    · rw [h4] at ht
      have ht := pruneO_ok hqf ht
      obtain ⟨t0, ht⟩ := allT_append.1 ht
      obtain ⟨t3, t4⟩ := allT_append.1 (allT_append.1 ht).2
      have hT := Leaf.thawFor_ok hth t3
      obtain ⟨ρ3, hle3, hs3⟩ := hT.sat A ρ a' w' hsq
      have T := turnObl_ok (u := fun _ => .nilIface) (D.nextZ e u i) h3 t4
      obtain ⟨ys, hy1, hy2⟩ := exitObl_prime (D.nextZ e u i) h2 t0
      have S := sat_turn hs3 T.ov T.hp (hxobj ν) T.inj T.lt T.df (hT.len.trans hl)
      rw [h1]
      refine hexit ν (ρ3.re (sig l q'.nx)) a' w' ⟨ys, hy1, hy2⟩ ⟨fun k hk p hp => ?_, fun b x hb => hle3.fz b x (hfix.2 b x hb)⟩ (by
        have e : mkSl (D.full (D.hx ν)).ov (fun j => (a'.tmps.toList[j]?).getD undef) 0 D.N = mkSl (D.full (D.hx ν)).ov (fun _ => .nilIface) 0 D.N := mkSl_indep _ _
        rw [e] at S
        exact S)
      show ρ3 (sig l q'.nx k) = some p
      rw [T.fixed k hk]
      exact hle3 k p (hfix.1 k hk p hp)
end LoopY
end Go.Sx
