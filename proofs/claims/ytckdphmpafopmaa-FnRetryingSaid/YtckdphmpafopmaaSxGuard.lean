/-
  SX, PART 30: data by rows and cells; loops over rows that stop at the first one that is bad.
-/
import Derived.Test.YtckdphmpafopmaaSxWords
namespace Go.Sx
open Go.RowKit
set_option linter.unusedVariables false

/-! ### rows and cells -/
def cc (l : List Dv) (k : Nat) : Dv := (l[k]?).getD (.i 0)
def row (d : Dv) (i : Nat) : List Dv := (d.T[i]?).getD []
theorem at_cc (d : Dv) (i k : Nat) : d.at i k = cc (row d i) k := id rfl
/-- Some things as one. -/
def pk (l : List E) : E := l.foldr (fun a b => .o2 .cel a b) (.il 0)
def pkD (l : List Dv) : Dv := l.foldr (fun a b => O2.den .cel a b) (.i 0)
theorem d_cel {env : Env} {a b : E} : (E.o2 .cel a b).den env = O2.den .cel (a.den env) (b.den env) := id rfl
theorem d_il {env : Env} {z : Int} : (E.il z).den env = .i z := id rfl
theorem d_bl {env : Env} {z : Bool} : (E.bl z).den env = .b z := id rfl
theorem d_sl {env : Env} {s : List UInt8} : (E.sl s).den env = .s ⟨s.toArray⟩ := id rfl
theorem d_uf {env : Env} {c : Nat} {a : E} : (E.uf c a).den env = env.uf c (a.den env) := id rfl
theorem d_cell {env : Env} {j : Nat} {a b : E} : (E.o2 (.cell j) a b).den env = cc (row (a.den env) (b.den env).I.toNat) j := id rfl
theorem d_add {env : Env} {a b : E} : (E.o2 .add a b).den env = .i ((a.den env).I + (b.den env).I) := id rfl
theorem dI_tlen {env : Env} {a : E} : ((E.o1 .tlen a).den env).I = ((a.den env).T.length : Int) := id rfl
theorem d_tlen {env : Env} {a : E} : (E.o1 .tlen a).den env = .i ((a.den env).T.length : Int) := id rfl
theorem dI_quo {env : Env} {a b : E} : ((E.o2 .quo a b).den env).I = (a.den env).I.tdiv (b.den env).I := id rfl
theorem dI_rem {env : Env} {a b : E} : ((E.o2 .rem a b).den env).I = (a.den env).I.tmod (b.den env).I := id rfl
theorem d_take {env : Env} {a b : E} : (E.o2 .ttake a b).den env = .t ((a.den env).T.take (b.den env).I.toNat) := id rfl
theorem dT_take {env : Env} {a b : E} : ((E.o2 .ttake a b).den env).T = (a.den env).T.take (b.den env).I.toNat := id rfl
theorem dT_drop {env : Env} {a b : E} : ((E.o2 .tdrop a b).den env).T = (a.den env).T.drop (b.den env).I.toNat := id rfl
theorem dT_cat {env : Env} {a b : E} : ((E.o2 .tcat a b).den env).T = (a.den env).T ++ (b.den env).T := id rfl
theorem T_cel {a b : Dv} : (O2.den .cel a b).T = [a :: b.T.head?.getD []] := id rfl
theorem T_i {z : Int} : (Dv.i z).T = [] := id rfl
theorem T_t {l : List (List Dv)} : (Dv.t l).T = l := id rfl
theorem ob_t {env : Env} {a b : E} : (Ob.t a b).den env ↔ (a.den env).T = (b.den env).T := Iff.rfl

/-! ### the first bad one -/
theorem stop_yes {B : Nat → Bool} {n i : Nat} (hi : i ≤ stop B n) (hn : i < n) (hb : B i = true) : stop B n < n := by
  have := @stop_le B n
  rcases Nat.lt_or_ge (stop B n) n with h | h
  · exact h
  · have : B i = false := stop_before (n := n) (by omega)
    rw [hb] at this; cases this
theorem stop_no {B : Nat → Bool} {n i : Nat} (hi : i ≤ stop B n) (hn : i < n) (hb : B i = false) : i < stop B n := by
  rcases Nat.lt_or_ge i (stop B n) with h | h
  · exact h
  · have e : i = stop B n := by omega
    have : B (stop B n) = true := stop_at (by omega)
    rw [← e, hb] at this; cases this
theorem stop_end {B : Nat → Bool} {n i : Nat} (hi : i ≤ stop B n) (hn : ¬ i < n) : ¬ stop B n < n := by
  have := @stop_le B n
  omega
def anyB (B : Nat → Bool) (n : Nat) : Bool := decide (stop B n < n)
theorem anyB_false {B : Nat → Bool} {n : Nat} (h : anyB B n = false) : ∀ i, i < n → B i = false := fun i hi => by
  have h := of_decide_eq_false h
  have := @stop_le B n
  exact stop_before (n := n) (by omega)
theorem anyB_of {B : Nat → Bool} {n : Nat} (h : ∀ i, i < n → B i = false) : anyB B n = false := by
  unfold anyB
  refine decide_eq_false fun hl => ?_
  have := stop_at hl
  rw [h _ hl] at this; cases this

/-- A loop over rows that says false at the first one that is bad. -/
def guardT (f key N res : Nat) (ks : DKs) (t islot : Nat) (J : List Nat) (ex p r bad stop : Nat) (X : XCtr) (more : List (Nat × SV) := []) (args : List E := []) (ps : List Nat := []) (objs : CHeap := []) : LoopY where
  f := f; key := key; N := N; r := r; base := 5000 + 1000 * (r - 2000)
  js := J
  hd := fun _ => ⟨more ++ [(res, .bool (.bl false)), (t, .dsl ks (.v p)), (t + 1, .int .i64 (.o1 .tlen (.v p))), (islot, .int .i64 (.v r))], objs, 9,
    [(.o2 .le (.il 0) (.v r), true), (.o2 .le (.v r) (.o1 .tlen (.v p)), true), (.o2 .le (.o1 .tlen (.v p)) (.il 9223372036854775807), true)]⟩
  ent := fun _ => [(.o2 .le (.o1 .tlen (.v p)) (.il 9223372036854775807), true)]
  app := fun _ => true
  ok0 := fun m => Nat.beq m 0
  modeL := fun _ => .ret 0
  tgt := fun m => Nat.beq m 0
  mf := fun _ => []
  hx := fun n => ⟨more ++ [(res, .bool (.bl false)), (t, .dsl ks (.v p)), (t + 1, .int .i64 (.o1 .tlen (.v p))), (islot, .top)], objs, 9, []⟩
  xmL := fun ex _ => match ex with | .ret => .ret 1 | _ => .ret 0
  exN := fun n => match n with | 1 => .ret | _ => .exit ex
  exits := [(.uf bad (pk ((.v p) :: args)), 1), (.bl true, 0)]
  fixed := objs.map (·.1)
  lt := .o2 .lt (.v r) (.uf stop (pk ((.v p) :: args)))
  X := X
  fuel := 300; np := 80
  params := p :: ps

theorem guard_ok {P : Program} (hP : Plain P) (hM : P.follows .mixedOrders = true) {f key N res t islot ex p r bad st : Nat} {ks : DKs} {J ps : List Nat} {X : XCtr} {more : List (Nat × SV)} {args : List E} {objs : CHeap} {D : LoopY}
    (hD : D = guardT f key N res ks t islot J ex p r bad st X more args ps objs) (hbody : ((P.funcs[f]?).bind (·.body)).isSome = true) (hpr : p ≠ r) (hobj : objs.all (fun x => headObj x.2) = true) {env : Env} {L : List (Facts × List Ob)} (hob : D.obl P 0 = some L)
    {B : Env → Nat → Bool}
    (hA : ∀ (e' : Env) (u : Nat → Value) (i : Nat), (pk ((.v p) :: args)).den (D.env e' u i) = (pk ((.v p) :: args)).den e')
    (hst : ∀ e', LoopY.Like D env e' → e'.uf st ((pk ((.v p) :: args)).den e') = .i (stop (B e') (e'.v p).T.length))
    (hX : ∀ e' i u A, LoopY.Like D env e' → ExtOk P (D.env e' u i) A (D.X.toExt P))
    (hL : ∀ e' i u, LoopY.Like D env e' → i ≤ stop (B e') (e'.v p).T.length → ((e'.v p).T.length : Int) ≤ 9223372036854775807 → AllL (D.env e' u i) L) : LpOk P env f key D.lpP := by
  have hf : D.f = f := by rw [hD]; rfl
  have hk : D.key = key := by rw [hD]; rfl
  have hr : D.r = r := by rw [hD]; rfl
  rw [← hf, ← hk]
  refine LoopY.lp_okP (D := D) hP hM (by rw [hf]; exact hbody) (fun e' he μ0 h0 hent => ?_) (fun ν => by rw [hD]; exact hobj)
  have : μ0 = 0 := by
    have : Nat.beq μ0 0 = true := by rw [hD] at h0; exact h0
    exact Nat.eq_of_beq_eq_true this
  subst this
  have hlen : ((e'.v p).T.length : Int) ≤ 9223372036854775807 := by
    have h1 : Facts.Hold e' [(.o2 .le (.o1 .tlen (.v p)) (.il 9223372036854775807), true)] := by rw [hD] at hent; exact hent
    have := (hold_cons_iff.1 h1).1
    rw [dB_le, dI_tlen] at this
    exact of_decide_eq_true this
  have hsl := @stop_le (B e') (e'.v p).T.length
  refine ⟨⟨stop (B e') (e'.v p).T.length, fun _ i μ => μ = 0, fun _ => L, fun i u A hi => hX e' i u A he, fun u i μ hm => by rw [hm]; exact hob,
    fun i μ u hm hi x hx hfx => allL_mem (hL e' i u he hi hlen) x hx hfx, fun i μ u hm hi => ?_, fun i u hi hl => ?_, fun u i μ μ' hm ht _ _ => ⟨0, rfl, ?_⟩, fun u _ => ⟨0, rfl, SameH.refl _⟩⟩⟩
  · have hp : (D.env e' u i).v p = e'.v p := by
      show (if p = D.r then _ else _) = _
      rw [if_neg (by rw [hr]; exact hpr)]
    have hrv : (D.env e' u i).v r = .i i := by
      show (if r = D.r then _ else _) = _
      rw [if_pos hr.symm]
    have : (D.hd μ).fs = [(.o2 .le (.il 0) (.v r), true), (.o2 .le (.v r) (.o1 .tlen (.v p)), true), (.o2 .le (.o1 .tlen (.v p)) (.il 9223372036854775807), true)] := by rw [hD]; rfl
    rw [this]
    simp only [hold_cons_iff, hold_nil_iff, dB_le, dI_il, dI_tlen, d_v, hp, hrv, I_i, decide_eq_true_eq, and_true]
    omega
  · have : D.lt = .o2 .lt (.v r) (.uf st (pk ((.v p) :: args))) := by rw [hD]; rfl
    rw [this, dB_lt] at hl
    have hl := of_decide_eq_true hl
    have hrv : (D.env e' u i).v r = .i i := by
      show (if r = D.r then _ else _) = _
      rw [if_pos hr.symm]
    rw [d_v, hrv, d_uf, hA e' u i] at hl
    have : (D.env e' u i).uf = e'.uf := rfl
    rw [this, hst e' he] at hl
    simp only [I_i] at hl
    omega
  · have : Nat.beq μ' 0 = true := by rw [hD] at ht; exact ht
    rw [Nat.eq_of_beq_eq_true this]
    exact SameH.refl _

/-- A loop of which all rounds have one shape. -/
theorem one_ok {P : Program} (hP : Plain P) (hM : P.follows .mixedOrders = true) {D : LoopY} (hbody : ((P.funcs[D.f]?).bind (·.body)).isSome = true) {env : Env} {L : List (Facts × List Ob)} (len : Env → Nat) (ho : D.obl P 0 = some L)
    (hk : ∀ m, D.ok0 m = true → m = 0) (ht : ∀ m, D.tgt m = true → m = 0) (hxobj : ∀ ν, ((D.hx ν).h.all fun x => headObj x.2) = true)
    (hX : ∀ e' i u A, LoopY.Like D env e' → (D.ent 0).Hold e' → i ≤ len e' → ExtOk P (D.env e' u i) A (D.X.toExt P))
    (hL : ∀ e', LoopY.Like D env e' → (D.ent 0).Hold e' → ∀ i u, i ≤ len e' → AllL (D.env e' u i) L)
    (hfs : ∀ e', LoopY.Like D env e' → (D.ent 0).Hold e' → ∀ i u, i ≤ len e' → (D.hd 0).fs.Hold (D.env e' u i))
    (hlt : ∀ e', LoopY.Like D env e' → (D.ent 0).Hold e' → ∀ i u, i ≤ len e' → (D.lt.den (D.env e' u i)).B = true → i < len e') : LpOk P env D.f D.key D.lpP := by
  refine LoopY.lp_okP hP hM hbody (fun e' he μ0 h0 hent => ?_) hxobj
  obtain rfl := hk μ0 h0
  exact ⟨⟨len e', fun _ i μ => μ = 0, fun _ => L, fun i u A hi => hX e' i u A he hent hi, fun u i μ hm => by rw [hm]; exact ho, fun i μ u hm hi x hx hfx => allL_mem (hL e' he hent i u hi) x hx hfx,
    fun i μ u hm hi => by rw [hm]; exact hfs e' he hent i u hi, fun i u hi hl => hlt e' he hent i u hi hl, fun u i μ μ' hm h _ _ => ⟨0, rfl, by rw [ht μ' h]; exact SameH.refl _⟩, fun u _ => ⟨0, rfl, SameH.refl _⟩⟩⟩
/-- A loop of which the first round has another shape than the rest. -/
theorem two_ok {P : Program} (hP : Plain P) (hM : P.follows .mixedOrders = true) {D : LoopY} (hbody : ((P.funcs[D.f]?).bind (·.body)).isSome = true) {env : Env} {L0 L1 : List (Facts × List Ob)} (len : Env → Nat) (ho0 : D.obl P 0 = some L0) (ho1 : D.obl P 1 = some L1)
    (hk : ∀ m, D.ok0 m = true → m = 0) (ht : ∀ m, D.tgt m = true → m = 1) (hxobj : ∀ ν, ((D.hx ν).h.all fun x => headObj x.2) = true)
    (hX : ∀ e' i u A, LoopY.Like D env e' → (D.ent 0).Hold e' → i ≤ len e' → ExtOk P (D.env e' u i) A (D.X.toExt P))
    (hL0 : ∀ e', LoopY.Like D env e' → (D.ent 0).Hold e' → ∀ u, AllL (D.env e' u 0) L0)
    (hL1 : ∀ e', LoopY.Like D env e' → (D.ent 0).Hold e' → ∀ i u, 0 < i → i ≤ len e' → AllL (D.env e' u i) L1)
    (hfs0 : ∀ e', LoopY.Like D env e' → (D.ent 0).Hold e' → ∀ u, (D.hd 0).fs.Hold (D.env e' u 0))
    (hfs1 : ∀ e', LoopY.Like D env e' → (D.ent 0).Hold e' → ∀ i u, 0 < i → i ≤ len e' → (D.hd 1).fs.Hold (D.env e' u i))
    (hlt : ∀ e', LoopY.Like D env e' → (D.ent 0).Hold e' → ∀ i u, i ≤ len e' → (D.lt.den (D.env e' u i)).B = true → i < len e') : LpOk P env D.f D.key D.lpP := by
  refine LoopY.lp_okP hP hM hbody (fun e' he μ0 h0 hent => ?_) hxobj
  obtain rfl := hk μ0 h0
  refine ⟨⟨len e', fun _ i μ => (μ = 0 ∧ i = 0) ∨ (μ = 1 ∧ 0 < i), fun μ => cond (Nat.beq μ 0) L0 L1, fun i u A hi => hX e' i u A he hent hi, fun u i μ hm => ?_, fun i μ u hm hi x hx hfx => ?_,
    fun i μ u hm hi => ?_, fun i u hi hl => hlt e' he hent i u hi hl, fun u i μ μ' hm h _ _ => ⟨1, .inr ⟨rfl, Nat.succ_pos i⟩, by rw [ht μ' h]; exact SameH.refl _⟩, fun u _ => ⟨0, .inl ⟨rfl, rfl⟩, SameH.refl _⟩⟩⟩
  · rcases hm with ⟨rfl, _⟩ | ⟨rfl, _⟩
    · exact ho0
    · exact ho1
  · rcases hm with ⟨rfl, rfl⟩ | ⟨rfl, hi0⟩
    · exact allL_mem (hL0 e' he hent u) x hx hfx
    · exact allL_mem (hL1 e' he hent i u hi0 hi) x hx hfx
  · rcases hm with ⟨rfl, rfl⟩ | ⟨rfl, hi0⟩
    · exact hfs0 e' he hent u
    · exact hfs1 e' he hent i u hi0 hi

/-- The same by cases: of each round one is so. Mode 0 or 1, and twice the case. -/
theorem cases_ok {P : Program} (hP : Plain P) (hM : P.follows .mixedOrders = true) {D : LoopY} (hbody : ((P.funcs[D.f]?).bind (·.body)).isSome = true) {env : Env} {L : Nat → List (Facts × List Ob)} (len : Env → Nat) (nc : Nat) (cs : Nat → Facts)
    (ho : ∀ μ, μ < 2 * nc → D.obl P μ = some (L μ)) (hsame : ∀ μ, μ < 2 * nc → SameH (D.hd μ) (D.hd (μ % 2)))
    (hk : ∀ m, D.ok0 m = true → m = 0) (ht : ∀ m, D.tgt m = true → m = 1) (hxobj : ∀ ν, ((D.hx ν).h.all fun x => headObj x.2) = true)
    (hcs : ∀ e', LoopY.Like D env e' → (D.ent 0).Hold e' → ∀ i u, i ≤ len e' → ∃ c, c < nc ∧ (cs c).Hold (D.env e' u i))
    (hX : ∀ e' i u A, LoopY.Like D env e' → (D.ent 0).Hold e' → i ≤ len e' → ExtOk P (D.env e' u i) A (D.X.toExt P))
    (hL0 : ∀ e', LoopY.Like D env e' → (D.ent 0).Hold e' → ∀ c, c < nc → ∀ u, (cs c).Hold (D.env e' u 0) → AllL (D.env e' u 0) (L (2 * c)))
    (hL1 : ∀ e', LoopY.Like D env e' → (D.ent 0).Hold e' → ∀ c, c < nc → ∀ i u, 0 < i → i ≤ len e' → (cs c).Hold (D.env e' u i) → AllL (D.env e' u i) (L (2 * c + 1)))
    (hfs0 : ∀ e', LoopY.Like D env e' → (D.ent 0).Hold e' → ∀ c, c < nc → ∀ u, (cs c).Hold (D.env e' u 0) → (D.hd (2 * c)).fs.Hold (D.env e' u 0))
    (hfs1 : ∀ e', LoopY.Like D env e' → (D.ent 0).Hold e' → ∀ c, c < nc → ∀ i u, 0 < i → i ≤ len e' → (cs c).Hold (D.env e' u i) → (D.hd (2 * c + 1)).fs.Hold (D.env e' u i))
    (hlt : ∀ e', LoopY.Like D env e' → (D.ent 0).Hold e' → ∀ i u, i ≤ len e' → (D.lt.den (D.env e' u i)).B = true → i < len e') : LpOk P env D.f D.key D.lpP := by
  refine LoopY.lp_okP hP hM hbody (fun e' he μ0 h0 hent => ?_) hxobj
  obtain rfl := hk μ0 h0
  refine ⟨⟨len e', fun u i μ => ∃ c, c < nc ∧ (cs c).Hold (D.env e' u i) ∧ ((μ = 2 * c ∧ i = 0) ∨ (μ = 2 * c + 1 ∧ 0 < i)), L, fun i u A hi => hX e' i u A he hent hi, fun u i μ hm => ?_, fun i μ u hm hi x hx hfx => ?_,
    fun i μ u hm hi => ?_, fun i u hi hl => hlt e' he hent i u hi hl, fun u i μ μ' hm h _ hle => ?_, fun u _ => ?_⟩⟩
  · obtain ⟨c, hc, _, hm⟩ := hm
    exact ho μ (by rcases hm with ⟨h, _⟩ | ⟨h, _⟩ <;> omega)
  · obtain ⟨c, hc, hcc, ⟨rfl, rfl⟩ | ⟨rfl, hi0⟩⟩ := hm
    · exact allL_mem (hL0 e' he hent c hc u hcc) x hx hfx
    · exact allL_mem (hL1 e' he hent c hc i u hi0 hi hcc) x hx hfx
  · obtain ⟨c, hc, hcc, ⟨rfl, rfl⟩ | ⟨rfl, hi0⟩⟩ := hm
    · exact hfs0 e' he hent c hc u hcc
    · exact hfs1 e' he hent c hc i u hi0 hi hcc
  · obtain ⟨c, hc, hcc⟩ := hcs e' he hent (i + 1) u hle
    refine ⟨2 * c + 1, ⟨c, hc, hcc, .inr ⟨rfl, Nat.succ_pos i⟩⟩, ?_⟩
    have := hsame (2 * c + 1) (by omega)
    rw [show (2 * c + 1) % 2 = 1 by omega] at this
    rw [ht μ' h]; exact this
  · obtain ⟨c, hc, hcc⟩ := hcs e' he hent 0 u (Nat.zero_le _)
    refine ⟨2 * c, ⟨c, hc, hcc, .inl ⟨rfl, rfl⟩⟩, ?_⟩
    have := hsame (2 * c) (by omega)
    rw [show (2 * c) % 2 = 0 by omega] at this
    exact this

/-! ### a law's paths -/
def leafL (q : Leaf) : Facts × List Ob := (q.fs, (match q.r with | .bool e => .e e | _ => .e (.bl false)) :: q.vcs)
def lawObl (P : Program) (X : XCtr) (f : FuncId) (KS : List PK) (n : Nat) : Option (List (Facts × List Ob)) :=
  match explore P X 400 (.fn false f (symArgs KS 0)) (symHeap KS 0) KS.length n (symFacts KS 0) with
  | .ok l => some (l.map leafL)
  | .error _ => none
theorem law_good {l : List Leaf} {env : Env} (h : AllL env (l.map leafL)) : ∀ q ∈ l, q.fs.Hold env → (∀ e ∈ q.vcs, e.den env) ∧ ∃ e, q.r = .bool e ∧ (e.den env).B = true := by
  intro q hq hf
  have := allL_mem h (leafL q) (List.mem_map.2 ⟨q, hq, rfl⟩) hf
  have h0 := this _ (List.mem_cons_self ..)
  refine ⟨fun e he => this e (List.mem_cons_of_mem _ he), ?_⟩
  cases hr : q.r with
  | bool e => rw [hr] at h0; exact ⟨e, rfl, h0⟩
  | _ => rw [hr] at h0; cases h0
/-- The families that are no inputs. -/
def pureEnv (U : Nat → Dv → Dv) : Env := ⟨fun _ => .i 0, fun _ _ => .i 0, fun _ _ => .nilIface, fun _ _ _ => none, U, fun _ _ _ _ _ _ => True⟩
theorem law_walk {P : Program} (hP : Plain P) (hM : P.follows .mixedOrders = true) {f : FuncId} {KS : List PK} (hsm : KS.all PK.small = true) {X : XCtr} {n : Nat} {L : List (Facts × List Ob)} (hob : lawObl P X f KS n = some L) {U : Nat → Dv → Dv}
    (hX : ∀ (o : Env) (A : Anchor), o.uf = U → ExtOk P o A (X.toExt P)) (hL : ∀ o : Env, o.uf = U → AllL o L) (W : World) (VS : List Value) (hl : VS.length = KS.length)
    (hall : ∀ (i : Nat) (p : PK) (v : Value), KS[i]? = some p → VS[i]? = some v → p.holds W v) : Calls P f VS.toArray W fun e W' => e = .returned (.bool true) ∧ Below W.heap.size W W' := by
  unfold lawObl at hob
  cases he : explore P X 400 (.fn false f (symArgs KS 0)) (symHeap KS 0) KS.length n (symFacts KS 0) with
  | error e => rw [he] at hob; cases hob
  | ok l =>
    rw [he] at hob
    simp only [Option.some.injEq] at hob
    have he' : explore P X 400 (.fn false f (symArgs KS 0)) (symHeap KS 0) KS.length n ([] ++ symFacts KS 0) = .ok l := he
    refine law_main hP hM hsm (x := pureEnv U) he' hl hall hold_nil (hX _ _ rfl) (law_good ?_)
    rw [hob]
    exact hL _ rfl
end Go.Sx
