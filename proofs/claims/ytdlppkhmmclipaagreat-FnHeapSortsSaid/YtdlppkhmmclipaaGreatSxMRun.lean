/-
  SX, PART 11: the theorem: what a symbolic run says of a call, the model does.
-/
import Derived.Test.YtdlppkhmmclipaaGreatSxMOpC
import Derived.Orders
import Derived.LoopN
import Derived.Defers
namespace Go.Sx
open Go.RowKit
set_option linter.unusedVariables false
set_option linter.unusedSimpArgs false
structure Fr where
 sl : List SV
 df : List (FuncId × List SV)
inductive eI where
 | normal
 | exit (n : Nat)
 | ret
 deriving Repr
def eI.den : eI -> Exit
 | .normal => .normal
 | .exit n => .exit n
 | .ret => .ret
def mM (env : Env) (ops : Array Oper) (sl : List SV) (o : Oper) : Option Bool :=
 match o.guard with
 | none => some true
 | some (j, want) =>
   match (ops[j]?).bind (·.dst) with
   | none => none
   | some d =>
     match sl[d]? with
     | some (.bool e) => some ((e.den env).B == want)
     | some (.fq []) => some false
     | _ => none
def jb (sl : List SV) (dst : Option Tmp) (v : SV) : List SV :=
 match dst with
 | some d => sl.set d v
 | none => sl
def cI (h : aL) (L : List Nat) : aL := fun n => if n ∈ L then some .dP else h n
def Nl : Option aA -> Bool
 | some .dP => true
 | _ => false
def eb (h : aL) (D : List Nat) : aL := fun n => if n ∈ D then none else h n
def BE (P : Program) (sl : List SV) : ResultVar -> Prog SV
 | .tmp t => .ret (sl[t]?.getD bH)
 | .cell a t => uj P t (sl[a]?.getD bH)
def yg (P : Program) (sl : List SV) : List ResultVar -> Prog (List SV)
 | [] => .ret []
 | x :: r => do
   let v <- BE P sl x
   let l <- yg P sl r
   return v :: l
def P1 (P : Program) (fn : Func) (sl : List SV) : Prog SV := do
 let l <- yg P sl fn.results.toList
 match l with
 | [v] => return v
 | l => return .fq l
def aG.nil : aG := ⟨[], []⟩
def aG.add (a b : aG) : aG := ⟨a.rd ++ b.rd, a.wr ++ b.wr⟩
def aG.sum (F : Nat -> aG) (n : Nat) : aG := ⟨(List.range n).flatMap fun i => (F i).rd, (List.range n).flatMap fun i => (F i).wr⟩
def tj (acc : List Nat) (o : Oper) : Nat :=
 o.after.toList.foldl (fun s e => cond (Region.binds .any e) (s ||| (2 ^ e.on ||| acc.getD e.on 0)) s) 0
def tg : List Oper -> List Nat -> List Nat
 | [], acc => acc
 | o :: r, acc => tg r (acc ++ [tj acc o])
def wu (ops : Array Oper) : List Nat := tg ops.toList []
def back (ops : Array Oper) : Bool := ops.toList.zipIdx.all fun (o, j) => o.after.toList.all fun e => !Region.binds .any e || Nat.blt e.on j
def qm (n : Nat) (l : List Nat) : Bool := l.any (Nat.beq n)
def lY (a b : List Nat) : Bool := a.all fun n => !qm n b
def jN (ops : Array Oper) (oi oj : Oper) (Fi Fj : aG) (ci cj : Bool) : Bool :=
 !(oi.apart ops oj) || !(lY Fi.wr Fj.rd) || !(lY Fi.wr Fj.wr) || !(lY Fi.rd Fj.wr) || (ci && cj)
def FF (ops : Array Oper) (ms : List Nat) (F : Nat -> aG) (cl : Nat -> Bool) (i j : Nat) : Bool :=
 match ops[i]?, ops[j]? with
 | some oi, some oj => cond (Nat.testBit (ms.getD j 0) i) true (!(jN ops oi oj (F i) (F j) (cl i) (cl j)))
 | _, _ => true
def ox (ops : Array Oper) (F : Nat -> aG) (cl : Nat -> Bool) : Bool :=
 back ops && Region.noSelect ops && (List.range ops.size).all fun j => (List.range j).all fun i => FF ops (wu ops) F cl i j
inductive KD : Type where
 | op (ops : Array Oper) (base i : Nat) (fr : Fr) (h : aL) (nx : Nat) (fr' : Fr) (h' : aL) (nx' : Nat) (cl : Bool) (F : aG)
 | code (c : Code) (fr : Fr) (h : aL) (nx : Nat) (ex : eI) (fr' : Fr) (h' : aL) (nx' : Nat) (F : aG)
 | loop (c : Code) (fr : Fr) (h : aL) (nx : Nat) (ex : eI) (fr' : Fr) (h' : aL) (nx' : Nat) (F : aG)
 | defs (ds : List (FuncId × List SV)) (h : aL) (nx : Nat) (h' : aL) (nx' : Nat) (F : aG)
 | fn (dfr : Bool) (f : FuncId) (args : List SV) (h : aL) (nx : Nat) (r : SV) (h' : aL) (nx' : Nat) (F : aG)
structure Ext where
 fn : FuncId -> List SV -> Nat -> Prog (SV × Nat) -> Prop
 lp : Code -> Fr -> Nat -> Prog (eI × Fr × Nat) -> Prop
def aG.jI (F G : aG) : Prop := (∀ n ∈ F.rd, n ∈ G.rd) /\ (∀ n, n ∈ G.wr ↔ n ∈ F.wr)
inductive Ev (P : Program) (env : Env) (X : Ext) : KD -> Prop where
 | A8 {ops base i fr h nx o} : ops[i]? = some o -> mM env ops fr.sl o = some false ->
     Ev P env X (.op ops base i fr h nx ⟨jb fr.sl o.dst bH, fr.df⟩ h nx false aG.nil)
 | Gz {ops base i fr h nx o v h' F} : ops[i]? = some o -> mM env ops fr.sl o = some true -> (lb P (base + i) (ff fr.sl) o.op).Ev env h (.val v) h' aG.nil F ->
     Ev P env X (.op ops base i fr h nx ⟨jb fr.sl o.dst v, fr.df⟩ h' nx false F)
 | Ac {ops base i fr h nx o h' F} : ops[i]? = some o -> mM env ops fr.sl o = some true -> (lb P (base + i) (ff fr.sl) o.op).Ev env h .skip h' aG.nil F ->
     Ev P env X (.op ops base i fr h nx ⟨jb fr.sl o.dst bH, fr.df⟩ h' nx false F)
 | vj {ops base i fr h nx o q cap args h' F} : ops[i]? = some o -> mM env ops fr.sl o = some true -> (lb P (base + i) (ff fr.sl) o.op).Ev env h (.defer (.func q) cap args) h' aG.nil F ->
     Ev P env X (.op ops base i fr h nx ⟨jb fr.sl o.dst bH, (q, args ++ cap) :: fr.df⟩ h' nx true F)
 | Bh {ops base i fr h nx o f args h1 F1 r h' nx' F2} : ops[i]? = some o -> mM env ops fr.sl o = some true -> (lb P (base + i) (ff fr.sl) o.op).Ev env h (.call f args) h1 aG.nil F1 ->
     Ev P env X (.fn false f args h1 nx r h' nx' F2) ->
     Ev P env X (.op ops base i fr h nx ⟨jb fr.sl o.dst r, fr.df⟩ h' nx' true (F1.add F2))
 | skip {fr h nx} : Ev P env X (.code .skip fr h nx .normal fr h nx aG.nil)
 | label {fr h nx l} : Ev P env X (.code (.label l) fr h nx .normal fr h nx aG.nil)
 | ret {fr h nx} : Ev P env X (.code .ret fr h nx .ret fr h nx aG.nil)
 | exit {fr h nx id} : Ev P env X (.code (.exit id) fr h nx (.exit id) fr h nx aG.nil)
 | Qg {a b fr h nx fr1 h1 nx1 F1 ex fr2 h2 nx2 F2} : Ev P env X (.code a fr h nx .normal fr1 h1 nx1 F1) -> Ev P env X (.code b fr1 h1 nx1 ex fr2 h2 nx2 F2) ->
     Ev P env X (.code (.seq a b) fr h nx ex fr2 h2 nx2 (F1.add F2))
 | PV {a b fr h nx fr1 h1 nx1 F1 ex} : ex ≠ .normal -> Ev P env X (.code a fr h nx ex fr1 h1 nx1 F1) -> Ev P env X (.code (.seq a b) fr h nx ex fr1 h1 nx1 F1)
 | cond {c a b fr h nx e ex fr1 h1 nx1 F1} : ff fr.sl c = some (.bool e) -> Ev P env X (.code (if (e.den env).B = true then a else b) fr h nx ex fr1 h1 nx1 F1) ->
     Ev P env X (.code (.cond c a b) fr h nx ex fr1 h1 nx1 F1)
 | zZ {id a fr h nx fr1 h1 nx1 F1} : Ev P env X (.code a fr h nx (.exit id) fr1 h1 nx1 F1) -> Ev P env X (.code (.block id a) fr h nx .normal fr1 h1 nx1 F1)
 | block {id a fr h nx ex fr1 h1 nx1 F1} : ex ≠ .exit id -> Ev P env X (.code a fr h nx ex fr1 h1 nx1 F1) -> Ev P env X (.code (.block id a) fr h nx ex fr1 h1 nx1 F1)
 | loop {c fr h nx ex fr1 h1 nx1 F1} : Ev P env X (.loop c fr h nx ex fr1 h1 nx1 F1) -> Ev P env X (.code (.loop c) fr h nx ex fr1 h1 nx1 F1)
 | Ha {c fr h nx fr1 h1 nx1 F1 ex fr2 h2 nx2 F2} : Ev P env X (.code c fr h nx .normal fr1 h1 nx1 F1) -> Ev P env X (.loop c fr1 h1 nx1 ex fr2 h2 nx2 F2) ->
     Ev P env X (.loop c fr h nx ex fr2 h2 nx2 (F1.add F2))
 | Hv {c fr h nx ex fr1 h1 nx1 F1} : ex ≠ .normal -> Ev P env X (.code c fr h nx ex fr1 h1 nx1 F1) -> Ev P env X (.loop c fr h nx ex fr1 h1 nx1 F1)
 | region {id ops draw h nx L D} (S : Nat -> Fr) (H : Nat -> aL) (N : Nat -> Nat) (F : Nat -> aG) (cl : Nat -> Bool) :
     (∀ m ∈ L, nx <= m /\ m < nx + ops.size) -> nx + ops.size <= 500000 -> (∀ m ∈ D, m ∈ L) -> H 0 = cI h L -> N 0 = nx + ops.size ->
     (∀ i, i < ops.size -> Ev P env X (.op ops nx i (S i) (H i) (N i) (S (i + 1)) (H (i + 1)) (N (i + 1)) (cl i) (F i))) ->
     (draw = true -> ox ops F cl = true) ->
     Ev P env X (.code (.region id ops draw) (S 0) h nx .normal (S ops.size) (eb (H ops.size) D) (N ops.size) ⟨(aG.sum F ops.size).rd, (aG.sum F ops.size).wr ++ L⟩)
 | QP {h nx} : Ev P env X (.defs [] h nx h nx aG.nil)
 | RY {f args ds h nx r h1 nx1 F1 h2 nx2 F2} : Ev P env X (.fn true f args h nx r h1 nx1 F1) -> Ev P env X (.defs ds h1 nx1 h2 nx2 F2) ->
     Ev P env X (.defs ((f, args) :: ds) h nx h2 nx2 (F1.add F2))
 | fn {dfr f args h nx fn c ex fr1 h1 nx1 F1 h2 nx2 F2 r F3 D F} : P.funcs[f]? = some fn -> fn.body = some c -> args.length <= fn.ntmps ->
     Ev P env X (.code c ⟨args ++ p5 (fn.ntmps - args.length) bH, []⟩ h nx ex fr1 h1 nx1 F1) -> (ex = .normal \/ ex = .ret) -> (dfr = true -> fr1.df = []) ->
     Ev P env X (.defs fr1.df h1 nx1 h2 nx2 F2) -> (P1 P fn fr1.sl).Ev env h2 r h2 aG.nil F3 -> F3.wr = [] -> (∀ m ∈ D, m ∈ F.wr) -> (∀ m ∈ D, m < 500000) ->
     ((F1.add F2).add F3).jI F -> Ev P env X (.fn dfr f args h nx r (eb h2 D) nx2 F)
 | ext {f args h nx p r h' nx' F} : X.fn f args nx p -> p.Ev env h (r, nx') h' aG.nil F -> Ev P env X (.fn false f args h nx r h' nx' F)
 | R2 {c fr h nx p ex fr' h' nx' F} : X.lp c fr nx p -> p.Ev env h (ex, fr', nx') h' aG.nil F -> Ev P env X (.code (.loop c) fr h nx ex fr' h' nx' F)
inductive eZ (env : Env) (ρ : af) : List (FuncId × List SV) -> List Deferred -> Prop
 | nil : eZ env ρ [] []
 | cons {q : FuncId} {l : List SV} {cs vs : List Value} {ds : List (FuncId × List SV)} {r : List Deferred} : SV.aD env ρ l (vs ++ cs) -> eZ env ρ ds r ->
     eZ env ρ ((q, l) :: ds) ({ target := .fn (.func q) cs.toArray, args := vs.toArray } :: r)
theorem eZ.mono {env : Env} {ρ ρ' : af} (h : ρ.le ρ') : ∀ {l : List (FuncId × List SV)} {d : List Deferred}, eZ env ρ l d -> eZ env ρ' l d
 | _, _, .nil => .nil
 | _, _, .cons a b => .cons (a.mono h) (b.mono h)
structure Sat (env : Env) (w0 : Anchor) (ρ : af) (fr : Fr) (h : aL) (nx : Nat) (a : Act) (w : World) : Prop where
 hs : az env w0 ρ h w
 sl : SV.aD env ρ fr.sl a.tmps.toList
 df : eZ env ρ fr.df a.defers
 nx : ∀ n p, ρ n = some p -> n < nx
structure eJ (P : Program) (env : Env) (w0 : Anchor) (X : Ext) : Prop where
 fn : ∀ f args nx p h r h' nx', X.fn f args nx p -> p.bx env h (r, nx') h' -> nx <= nx' /\ ∀ ρ w vs, az env w0 ρ h w -> (∀ n p, ρ n = some p -> n < nx) -> SV.aD env ρ args vs ->
  Calls P f vs.toArray w fun e w' => ∃ ρ' v, e = .returned v /\ ρ.le ρ' /\ az env w0 ρ' h' w' /\ (∀ n p, ρ' n = some p -> n < nx') /\ r.Rel env ρ' v
 lp : ∀ c fr nx p h ex fr' h' nx', X.lp c fr nx p -> p.bx env h (ex, fr', nx') h' -> nx <= nx' /\ ∀ ρ (a : Act) w (Q : Exit -> Act -> World -> Prop), Sat env w0 ρ fr h nx a w ->
  (∀ ρ' (a' : Act) w', ρ.le ρ' -> Sat env w0 ρ' fr' h' nx' a' w' -> Q ex.den a' w') -> (Code.loop c).wp P Q a w
theorem mw {ev ev' : Operand -> Option SV} : ∀ {l : List Operand}, (∀ x ∈ l, ev x = ev' x) -> LV ev l = LV ev' l
 | [], _ => rfl
 | x :: r, h => by simp only [LV, h x (List.mem_cons_self ..), mw (fun y hy => h y (List.mem_cons_of_mem _ hy))]
theorem s6 {ev ev' : Operand -> Option SV} : ∀ {l : List (Nat × Operand)}, (∀ x ∈ l, ev x.2 = ev' x.2) -> Ru ev l = Ru ev' l
 | [], _ => rfl
 | (i, x) :: r, h => by
   have h1 : ev x = ev' x := h (i, x) (List.mem_cons_self ..); simp only [Ru, h1, s6 (fun y hy => h y (List.mem_cons_of_mem _ hy))]
theorem pJ {ev ev' : Operand -> Option SV} {o : Option Operand} (h : ∀ x ∈ o, ev x = ev' x) : Km ev o = Km ev' o := by
 cases o with
 | none => rfl
 | some x => simp only [Km, h x rfl]
theorem ka {P : Program} {nm : Nat} {ev ev' : Operand -> Option SV} {op : Op} (h : ∀ x ∈ op.operands, ev x = ev' x) : lb P nm ev op = lb P nm ev' op := by
 cases op with
 | move x => simp only [lb, c8, h x (by simp [Op.operands])]
 | assign x => simp only [lb, c8, h x (by simp [Op.operands])]
 | pick c a b =>
   have h1 := h c (by simp [Op.operands]); have h2 := h a (by simp [Op.operands]); have h3 := h b (by simp [Op.operands])
   have h4 : ∀ t : Bool, ev (cond t a b) = ev' (cond t a b) := fun t => by cases t <;> assumption
   simp only [lb, c8, h1, h4]
 | alloc t => rfl
 | box t x => simp only [lb, c8, h x (by simp [Op.operands])]
 | build t parts => simp only [lb, s6 (l := parts.toList) (fun x hx => h x.2 (by simp only [Op.operands]; simp; exact ⟨_, (by simpa using hx : (x.1, x.2) ∈ parts)⟩))]
 | buildSlice t n parts => simp only [lb, s6 (l := parts.toList) (fun x hx => h x.2 (by simp only [Op.operands]; simp; exact ⟨_, (by simpa using hx : (x.1, x.2) ∈ parts)⟩))]
 | load t x => simp only [lb, c8, h x (by simp [Op.operands])]
 | store t a x => simp only [lb, c8, h a (by simp [Op.operands]), h x (by simp [Op.operands])]
 | nilCheck x => simp only [lb, c8, h x (by simp [Op.operands])]
 | binOp o t x y yt => simp only [lb, c8, h x (by simp [Op.operands]), h y (by simp [Op.operands])]
 | unOp o t x => simp only [lb, c8, h x (by simp [Op.operands])]
 | convert s d x => simp only [lb, c8, h x (by simp [Op.operands])]
 | makeInterface t x => simp only [lb, c8, h x (by simp [Op.operands])]
 | makeFunc fn first cap =>
   simp only [lb, mw (l := first.toList) (fun x hx => h x (by simp only [Op.operands]; simp; exact .inl (by simpa using hx))),
    mw (l := cap.toList) (fun x hx => h x (by simp only [Op.operands]; simp; exact .inr (by simpa using hx)))]
 | slice t x lo hi mx =>
   cases mx with
   | some m =>
     cases hi with
     | none => rfl
     | some hh =>
       simp only [lb, c8, h x (by simp [Op.operands]), h hh (by simp [Op.operands]), h m (by simp [Op.operands]), pJ (o := lo) (fun y hy => h y (by simp only [Op.operands]; simp; exact .inr (.inl (.inl hy))))]
   | none =>
     have e0 := h x (by simp [Op.operands])
     have e1 := pJ (ev := ev) (ev' := ev') (o := lo) (fun y hy => h y (by simp only [Op.operands]; simp; exact .inr (.inl hy)))
     have e2 := pJ (ev := ev) (ev' := ev') (o := hi) (fun y hy => h y (by simp only [Op.operands]; simp; exact .inr (.inr hy)))
     cases hi <;> simp only [lb, c8, e0, e1, e2]
 | fieldAddr t x f => simp only [lb, c8, h x (by simp [Op.operands])]
 | field t x f => simp only [lb, c8, h x (by simp [Op.operands])]
 | indexAddr t x i => simp only [lb, c8, h x (by simp [Op.operands]), h i (by simp [Op.operands])]
 | index t x i => simp only [lb, c8, h x (by simp [Op.operands]), h i (by simp [Op.operands])]
 | typeAssert x xt t ok => simp only [lb, c8, h x (by simp [Op.operands])]
 | makeChan t s => simp only [lb, c8, h s (by simp [Op.operands])]
 | makeMap t r => simp only [lb, pJ (o := r) (fun y hy => h y (by subst hy; simp [Op.operands]))]
 | entry x => simp only [lb, c8, h x (by simp [Op.operands])]
 | range t x => simp only [lb, c8, h x (by simp [Op.operands])]
 | next x b => cases b <;> first | rfl | simp only [lb, c8, h x (by simp [Op.operands])]
 | makeSlice t l c => simp only [lb, c8, h l (by simp [Op.operands]), h c (by simp [Op.operands])]
 | lookup t x i ok => simp only [lb, c8, h x (by simp [Op.operands]), h i (by simp [Op.operands])]
 | mapUpdate t m k x => simp only [lb, c8, h m (by simp [Op.operands]), h k (by simp [Op.operands]), h x (by simp [Op.operands])]
 | insert t m k x => simp only [lb, c8, h m (by simp [Op.operands]), h k (by simp [Op.operands]), h x (by simp [Op.operands])]
 | extract x i => simp only [lb, c8, h x (by simp [Op.operands])]
 | call c =>
   have ha := mw (ev := ev) (ev' := ev') (l := c.args.toList) (fun x hx => h x (by simp only [Op.operands, Call.operands]; simp; exact .inr (by simpa using hx)))
   simp only [lb, GU, ha]; cases hc : c.callee with
   | builtin b => rfl
   | invoke r name => simp only [c8, h r (by simp [Op.operands, Call.operands, hc])]
   | value f => simp only [c8, h f (by simp [Op.operands, Call.operands, hc])]
 | defer c =>
   have ha := mw (ev := ev) (ev' := ev') (l := c.args.toList) (fun x hx => h x (by simp only [Op.operands, Call.operands]; simp; exact .inr (by simpa using hx)))
   simp only [lb, Bk, ha]; cases hc : c.callee with
   | builtin b => rfl
   | invoke r name => rfl
   | value f => simp only [c8, h f (by simp [Op.operands, Call.operands, hc])]
 | _ => rfl
theorem D8 {sl sl2 : List SV} {x : Operand} (h : ∀ t, x = .tmp t -> sl2[t]? = sl[t]?) : ff sl2 x = ff sl x := by
 cases x <;> simp only [ff]; rw [h _ rfl]
theorem mC {ops : Array Oper} {o : Oper} {sl sl2 : List SV} (h : ∀ d ∈ o.looksAt ops, sl2[d]? = sl[d]?) : ∀ x ∈ o.op.operands, ff sl2 x = ff sl x := by
 intro x hx; refine D8 (fun t ht => h t ?_); unfold Oper.looksAt; refine List.mem_append_left _ (List.mem_filterMap.2 ⟨x, by simpa using hx, ?_⟩)
 subst ht; rfl
theorem eO {env : Env} {ops : Array Oper} {o : Oper} {sl sl2 : List SV} (h : ∀ d ∈ o.looksAt ops, sl2[d]? = sl[d]?) : mM env ops sl2 o = mM env ops sl o := by
 unfold mM; cases hg : o.guard with
 | none => rfl
 | some q =>
   obtain ⟨j, want⟩ := q; simp only; cases hd : (ops[j]?).bind (·.dst) with
   | none => rfl
   | some d =>
     simp only; rw [h d (by unfold Oper.looksAt; refine List.mem_append_right _ ?_; rw [hg]; simp [hd])]
def jh (h h' : aL) (F : aG) : Prop := ∀ n, n ∉ F.wr -> h' n = h n
def lJ (t t' h' : aL) (F : aG) : Prop := ∀ n, t' n = if n ∈ F.wr then h' n else t n
def Loc (P : Program) (env : Env) (X : Ext) : KD -> Prop
 | .op ops base i fr h nx fr' h' nx' cl F => jh h h' F /\ ∃ o x, ops[i]? = some o /\ fr'.sl = jb fr.sl o.dst x /\ (cl = false -> nx' = nx /\ fr'.df = fr.df) /\
     ∀ sl2 df2 t nx2, (∀ d ∈ o.looksAt ops, sl2[d]? = fr.sl[d]?) -> (∀ n ∈ F.rd, t n = h n) -> (cl = true -> nx2 = nx /\ df2 = fr.df) ->
      ∃ t', Ev P env X (.op ops base i ⟨sl2, df2⟩ t nx2 ⟨jb sl2 o.dst x, if cl then fr'.df else df2⟩ t' (if cl then nx' else nx2) cl F) /\ lJ t t' h' F
 | .code c fr h nx ex fr' h' nx' F => jh h h' F /\ ∀ t, (∀ n ∈ F.rd, t n = h n) -> ∃ t', Ev P env X (.code c fr t nx ex fr' t' nx' F) /\ lJ t t' h' F
 | .loop c fr h nx ex fr' h' nx' F => jh h h' F /\ ∀ t, (∀ n ∈ F.rd, t n = h n) -> ∃ t', Ev P env X (.loop c fr t nx ex fr' t' nx' F) /\ lJ t t' h' F
 | .defs ds h nx h' nx' F => jh h h' F /\ ∀ t, (∀ n ∈ F.rd, t n = h n) -> ∃ t', Ev P env X (.defs ds t nx t' nx' F) /\ lJ t t' h' F
 | .fn dfr f args h nx r h' nx' F => jh h h' F /\ ∀ t, (∀ n ∈ F.rd, t n = h n) -> ∃ t', Ev P env X (.fn dfr f args t nx r t' nx' F) /\ lJ t t' h' F
theorem jh.trans {a b c : aL} {F G : aG} (h : jh a b F) (k : jh b c G) : jh a c (F.add G) := fun n hn => by
 simp only [aG.add, List.mem_append, not_or] at hn; rw [k n hn.2, h n hn.1]
theorem lJ.trans {t t1 t2 b c : aL} {F G : aG} (m1 : lJ t t1 b F) (m2 : lJ t1 t2 c G) (k : jh b c G) : lJ t t2 c (F.add G) := fun n => by
 rw [m2 n, m1 n]; simp only [aG.add, List.mem_append]
 by_cases h1 : n ∈ G.wr
 ·simp [h1]
 ·by_cases h2 : n ∈ F.wr
  ·simp only [h1, h2, if_true, if_false, or_false, true_or]; rw [k n h1]
  ·simp [h1, h2]
theorem lJ.reads {t t1 a b : aL} {F G : aG} (m : lJ t t1 b F) (k : jh a b F) (hr : ∀ n ∈ (F.add G).rd, t n = a n) : ∀ n ∈ G.rd, t1 n = b n := fun n hn => by
 rw [m n]
 by_cases h1 : n ∈ F.wr
 ·simp [h1]
 ·rw [if_neg h1, hr n (by simp [aG.add, hn]), k n h1]
theorem eD {α : Type} {env : Env} {p : Prog α} {h h' : aL} {a : α} {F : aG} (he : p.Ev env h a h' aG.nil F) :
    jh h h' F /\ ∀ t, (∀ n ∈ F.rd, t n = h n) -> ∃ t', p.Ev env t a t' aG.nil F /\ lJ t t' h' F := by
 obtain ⟨R, W, e, hw, hl⟩ := he.local; simp only [aG.nil, List.append_nil] at e; subst e; refine ⟨hw, fun t ht => ?_⟩; obtain ⟨t', h1, h2⟩ := hl t aG.nil ht; exact ⟨t', by simpa [aG.nil] using h1, h2⟩
theorem Ev.loc {P : Program} {env : Env} {X : Ext} {j : KD} (he : Ev P env X j) : Loc P env X j := by
 induction he with
 | A8 ho hw =>
   refine ⟨fun n _ => rfl, _, _, ho, rfl, fun _ => ⟨rfl, rfl⟩, fun sl2 df2 t nx2 h1 h2 h3 => ⟨t, ?_, fun n => by simp [aG.nil]⟩⟩
   exact .A8 (fr := ⟨sl2, df2⟩) ho (by rw [eO h1]; exact hw)
 | Gz ho hw he =>
   obtain ⟨k, hl⟩ := eD he; refine ⟨k, _, _, ho, rfl, fun _ => ⟨rfl, rfl⟩, fun sl2 df2 t nx2 h1 h2 h3 => ?_⟩; obtain ⟨t', g1, g2⟩ := hl t h2; exact ⟨t', .Gz (fr := ⟨sl2, df2⟩) ho (by rw [eO h1]; exact hw) (by rw [ka (mC h1)]; exact g1), g2⟩
 | Ac ho hw he =>
   obtain ⟨k, hl⟩ := eD he; refine ⟨k, _, _, ho, rfl, fun _ => ⟨rfl, rfl⟩, fun sl2 df2 t nx2 h1 h2 h3 => ?_⟩; obtain ⟨t', g1, g2⟩ := hl t h2; exact ⟨t', .Ac (fr := ⟨sl2, df2⟩) ho (by rw [eO h1]; exact hw) (by rw [ka (mC h1)]; exact g1), g2⟩
 | vj ho hw he =>
   obtain ⟨k, hl⟩ := eD he; refine ⟨k, _, _, ho, rfl, fun h => (by cases h), fun sl2 df2 t nx2 h1 h2 h3 => ?_⟩
   obtain ⟨t', g1, g2⟩ := hl t h2; obtain ⟨rfl, rfl⟩ := h3 rfl; exact ⟨t', .vj (fr := ⟨sl2, _⟩) ho (by rw [eO h1]; exact hw) (by rw [ka (mC h1)]; exact g1), g2⟩
 | Bh ho hw he hf ih =>
   obtain ⟨k1, hl1⟩ := eD he; obtain ⟨k2, hl2⟩ := ih; refine ⟨k1.trans k2, _, _, ho, rfl, fun h => (by cases h), fun sl2 df2 t nx2 h1 h2 h3 => ?_⟩
   obtain ⟨t1, g1, g2⟩ := hl1 t (fun n hn => h2 n (by simp [aG.add, hn]))
   obtain ⟨t2, g3, g4⟩ := hl2 t1 (g2.reads k1 h2); obtain ⟨rfl, rfl⟩ := h3 rfl; exact ⟨t2, .Bh (fr := ⟨sl2, _⟩) ho (by rw [eO h1]; exact hw) (by rw [ka (mC h1)]; exact g1) g3, g2.trans g4 k2⟩
 | skip => exact ⟨fun n _ => rfl, fun t _ => ⟨t, .skip, fun n => by simp [aG.nil]⟩⟩
 | label => exact ⟨fun n _ => rfl, fun t _ => ⟨t, .label, fun n => by simp [aG.nil]⟩⟩
 | ret => exact ⟨fun n _ => rfl, fun t _ => ⟨t, .ret, fun n => by simp [aG.nil]⟩⟩
 | exit => exact ⟨fun n _ => rfl, fun t _ => ⟨t, .exit, fun n => by simp [aG.nil]⟩⟩
 | Qg h1 h2 ih1 ih2 =>
   obtain ⟨k1, hl1⟩ := ih1; obtain ⟨k2, hl2⟩ := ih2; refine ⟨k1.trans k2, fun t ht => ?_⟩; obtain ⟨t1, g1, g2⟩ := hl1 t (fun n hn => ht n (by simp [aG.add, hn]))
   obtain ⟨t2, g3, g4⟩ := hl2 t1 (g2.reads k1 ht); exact ⟨t2, .Qg g1 g3, g2.trans g4 k2⟩
 | PV hne h1 ih1 =>
   obtain ⟨k1, hl1⟩ := ih1; exact ⟨k1, fun t ht => let ⟨t1, g1, g2⟩ := hl1 t ht; ⟨t1, .PV hne g1, g2⟩⟩
 | cond hc h1 ih1 =>
   obtain ⟨k1, hl1⟩ := ih1; exact ⟨k1, fun t ht => let ⟨t1, g1, g2⟩ := hl1 t ht; ⟨t1, .cond hc g1, g2⟩⟩
 | zZ h1 ih1 =>
   obtain ⟨k1, hl1⟩ := ih1; exact ⟨k1, fun t ht => let ⟨t1, g1, g2⟩ := hl1 t ht; ⟨t1, .zZ g1, g2⟩⟩
 | block hne h1 ih1 =>
   obtain ⟨k1, hl1⟩ := ih1; exact ⟨k1, fun t ht => let ⟨t1, g1, g2⟩ := hl1 t ht; ⟨t1, .block hne g1, g2⟩⟩
 | loop h1 ih1 =>
   obtain ⟨k1, hl1⟩ := ih1; exact ⟨k1, fun t ht => let ⟨t1, g1, g2⟩ := hl1 t ht; ⟨t1, .loop g1, g2⟩⟩
 | Ha h1 h2 ih1 ih2 =>
   obtain ⟨k1, hl1⟩ := ih1; obtain ⟨k2, hl2⟩ := ih2; refine ⟨k1.trans k2, fun t ht => ?_⟩; obtain ⟨t1, g1, g2⟩ := hl1 t (fun n hn => ht n (by simp [aG.add, hn]))
   obtain ⟨t2, g3, g4⟩ := hl2 t1 (g2.reads k1 ht); exact ⟨t2, .Ha g1 g3, g2.trans g4 k2⟩
 | Hv hne h1 ih1 =>
   obtain ⟨k1, hl1⟩ := ih1; exact ⟨k1, fun t ht => let ⟨t1, g1, g2⟩ := hl1 t ht; ⟨t1, .Hv hne g1, g2⟩⟩
 | @region id ops draw h nx L D S H N F cl hL hmax hDL h0 hN hop hdraw ih =>
   have upto : ∀ i, i <= ops.size -> ∀ n, (∀ j, j < i -> n ∉ (F j).wr) -> H i n = H 0 n := by
    intro i
    induction i with
    | zero => intro _ n _; rfl
    | succ i ihi =>
      intro hi n hn
      have hk : jh (H i) (H (i + 1)) (F i) := by
       have := ih i (by omega)
       exact this.1
      rw [hk n (hn i (by omega))]
      exact ihi (by omega) n (fun j hj => hn j (by omega))
   have sumwr : ∀ n, n ∈ (aG.sum F ops.size).wr ↔ ∃ j, j < ops.size /\ n ∈ (F j).wr := fun n => by simp [aG.sum]
   have sumrd : ∀ n, n ∈ (aG.sum F ops.size).rd ↔ ∃ j, j < ops.size /\ n ∈ (F j).rd := fun n => by simp [aG.sum]
   have hkeep : jh h (eb (H ops.size) D) ⟨(aG.sum F ops.size).rd, (aG.sum F ops.size).wr ++ L⟩ := by
    intro n hn; simp only [List.mem_append, not_or, sumwr, not_exists, not_and] at hn; unfold eb; rw [if_neg (fun hc => hn.2 (hDL n hc)), upto ops.size (Nat.le_refl _) n (fun j hj => hn.1 j hj), h0]; unfold cI; rw [if_neg hn.2]
   refine ⟨hkeep, fun t ht => ?_⟩
   let H' : Nat -> aL := fun i n => if ∃ j, j < i /\ n ∈ (F j).wr then H i n else cI t L n
   have hH'0 : H' 0 = cI t L := by funext n; simp [H']
   have zk : ∀ i, i < ops.size -> Ev P env X (.op ops nx i (S i) (H' i) (N i) (S (i + 1)) (H' (i + 1)) (N (i + 1)) (cl i) (F i)) := by
    intro i hi; obtain ⟨hk, o, x, ho, hsl, hcl, hl⟩ := ih i hi
    have hrd : ∀ n ∈ (F i).rd, H' i n = H i n := by
     intro n hn; simp only [H']; split
     ·rfl
     ·rename_i hno; rw [upto i (by omega) n (fun j hj hw => hno ⟨j, hj, hw⟩), h0]
      unfold cI
      by_cases hnL : n ∈ L
      ·simp [hnL]
      ·rw [if_neg hnL, if_neg hnL]; exact ht n ((sumrd n).2 ⟨i, hi, hn⟩)
    obtain ⟨t', g1, g2⟩ := hl (S i).sl (S i).df (H' i) (N i) (fun d _ => rfl) hrd (fun _ => ⟨rfl, rfl⟩)
    have e1 : (⟨jb (S i).sl o.dst x, if cl i then (S (i + 1)).df else (S i).df⟩ : Fr) = S (i + 1) := by
     rw [<- hsl]; cases hc : cl i with
     | true => simp
     | false => simp only [Bool.false_eq_true, if_false]; rw [<- (hcl hc).2]
    have e2 : (if cl i then N (i + 1) else N i) = N (i + 1) := by
     cases hc : cl i with
     | true => simp
     | false => simp only [Bool.false_eq_true, if_false]; exact (hcl hc).1.symm
    have e3 : t' = H' (i + 1) := by
     funext n
     rw [g2 n]; simp only [H']
     by_cases h1 : n ∈ (F i).wr
     ·rw [if_pos h1, if_pos ⟨i, by omega, h1⟩]
     ·rw [if_neg h1]
      by_cases h2 : ∃ j, j < i /\ n ∈ (F j).wr
      ·obtain ⟨j, hj, hw⟩ := h2; rw [if_pos ⟨j, hj, hw⟩, if_pos ⟨j, by omega, hw⟩, hk n h1]
      ·rw [if_neg h2, if_neg (fun ⟨j, hj, hw⟩ => by
         by_cases hji : j = i
         ·subst hji; exact h1 hw
         ·exact h2 ⟨j, by omega, hw⟩)]
    rw [e1, e2, e3] at g1; exact g1
   refine ⟨eb (H' ops.size) D, .region S H' N F cl hL hmax hDL hH'0 hN zk hdraw, fun n => ?_⟩; simp only [List.mem_append, sumwr]; unfold eb
   by_cases hd : n ∈ D
   ·have hnl := hDL n hd; simp only [hd, if_true, hnl, or_true]
   ·simp only [hd, if_false]
    by_cases h1 : ∃ j, j < ops.size /\ n ∈ (F j).wr
    ·simp only [h1, true_or, if_true]; simp only [H', h1, if_true]
    ·simp only [h1, false_or]
     by_cases h2 : n ∈ L
     ·simp only [h2, if_true]
      have e1 : H ops.size n = some .dP := by
       rw [upto ops.size (Nat.le_refl _) n (fun j hj hw => h1 ⟨j, hj, hw⟩), h0]; unfold cI; simp [h2]
      simp only [H', h1, if_false, cI, h2, if_true, e1]
     ·simp only [h2, if_false]; simp only [H', h1, if_false, cI, h2]
 | QP => exact ⟨fun n _ => rfl, fun t _ => ⟨t, .QP, fun n => by simp [aG.nil]⟩⟩
 | RY h1 h2 ih1 ih2 =>
   obtain ⟨k1, hl1⟩ := ih1; obtain ⟨k2, hl2⟩ := ih2; refine ⟨k1.trans k2, fun t ht => ?_⟩; obtain ⟨t1, g1, g2⟩ := hl1 t (fun n hn => ht n (by simp [aG.add, hn]))
   obtain ⟨t2, g3, g4⟩ := hl2 t1 (g2.reads k1 ht); exact ⟨t2, .RY g1 g3, g2.trans g4 k2⟩
 | @fn dfr f args h nx fn c ex fr1 h1' nx1 F1 h2' nx2 F2 r F3 D F hf hb hn h1 hex hdf h2 h3 h4 hD hD5 hF ih1 ih2 =>
   obtain ⟨k1, hl1⟩ := ih1; obtain ⟨k2, hl2⟩ := ih2; obtain ⟨k3, hl3⟩ := eD h3
   refine ⟨fun n hn => by
    unfold eb; rw [if_neg (fun hc => hn (hD n hc))]
    exact ((k1.trans k2).trans k3) n (fun hc => hn ((hF.2 n).2 hc)), fun t ht => ?_⟩
   have ht := fun n hn => ht n (hF.1 n hn); obtain ⟨t1, g1, g2⟩ := hl1 t (fun n hn => ht n (by simp [aG.add, hn]))
   obtain ⟨t2, g3, g4⟩ := hl2 t1 (g2.reads k1 (fun n hn => ht n (by simp only [aG.add, List.mem_append] at hn ⊢; exact .inl hn)))
   have m12 := g2.trans g4 k2; obtain ⟨t3, g5, g6⟩ := hl3 t2 (m12.reads (k1.trans k2) ht); have e : t3 = t2 := by funext n; rw [g6 n, h4]; simp
   subst e; refine ⟨_, .fn hf hb hn g1 hex hdf g3 g5 h4 hD hD5 hF, fun n => ?_⟩; have hm := m12.trans g6 k3 n
   by_cases hw : n ∈ F.wr
   ·rw [if_pos hw]; rw [if_pos ((hF.2 n).1 hw)] at hm; unfold eb
    by_cases hd : n ∈ D
    ·rw [if_pos hd, if_pos hd]
    ·rw [if_neg hd, if_neg hd]; exact hm
   ·rw [if_neg hw]; rw [if_neg (fun h => hw ((hF.2 n).2 h))] at hm; unfold eb; rw [if_neg (fun hd => hw (hD n hd))]; exact hm
 | ext hx he =>
   obtain ⟨k, hl⟩ := eD he; exact ⟨k, fun t ht => let ⟨t', g1, g2⟩ := hl t ht; ⟨t', .ext hx g1, g2⟩⟩
 | R2 hx he =>
   obtain ⟨k, hl⟩ := eD he; exact ⟨k, fun t ht => let ⟨t', g1, g2⟩ := hl t ht; ⟨t', .R2 hx g1, g2⟩⟩
def fX (p : Nat -> Bool) : Nat -> Option Nat
 | 0 => none
 | n + 1 => if p n then some n else fX p n
def pick {α : Type} (V : Nat -> α) (p : Nat -> Bool) (n : Nat) : α :=
 match fX p n with
 | some j => V (j + 1)
 | none => V 0
theorem oh {p q : Nat -> Bool} : ∀ {n : Nat}, (∀ k, k < n -> p k = q k) -> fX p n = fX q n
 | 0, _ => rfl
 | n + 1, h => by
   have ih := oh (p := p) (q := q) (n := n) (fun k hk => h k (by omega))
   simp only [fX, h n (by omega), ih]
theorem E1 {α : Type} {V : Nat -> α} {p q : Nat -> Bool} {n : Nat} (h : ∀ k, k < n -> p k = q k) : pick V p n = pick V q n := by
 unfold pick; rw [oh h]
theorem Ki {α : Type} {V : Nat -> α} {p : Nat -> Bool} {n : Nat} (h : ∀ k, k < n -> p k = false) : pick V p n = V 0 := by
 have : fX p n = none := by
  induction n with
  | zero => rfl
  | succ n ih => simp only [fX, h n (by omega), Bool.false_eq_true, if_false]; exact ih (fun k hk => h k (by omega))
 unfold pick; rw [this]
theorem Ek {α : Type} {V : Nat -> α} {wr : Nat -> Bool} {n : Nat} (hV : ∀ k, k < n -> wr k = false -> V (k + 1) = V k) : ∀ {i : Nat}, i <= n -> pick V wr i = V i
 | 0, _ => rfl
 | i + 1, hi => by
   cases hw : wr i with
   | true => unfold pick; simp [fX, hw]
   | false =>
     have ih := Ek hV (i := i) (by omega)
     rw [hV i (by omega) hw, <- ih]
     unfold pick; simp [fX, hw]
theorem sR {p : Nat -> Bool} {i : Nat} : ∀ {n : Nat}, i <= n -> (∀ k, i <= k -> k < n -> p k = false) -> fX p n = fX p i
 | 0, hi, _ => by rw [show i = 0 by omega]
 | n + 1, hi, h => by
   by_cases e : i = n + 1
   ·rw [e]
   ·simp only [fX, h n (by omega) (by omega), Bool.false_eq_true, if_false]
    exact sR (by omega) (fun k h1 h2 => h k h1 (by omega))
theorem rE {α : Type} {V : Nat -> α} {wr E : Nat -> Bool} {n i : Nat} (hV : ∀ k, k < n -> wr k = false -> V (k + 1) = V k) (hi : i <= n)
    (h1 : ∀ k, k < i -> wr k = true -> E k = true) (h2 : ∀ k, i <= k -> k < n -> E k = true -> wr k = false) : pick V (fun k => E k && wr k) n = V i := by
 have e1 : fX (fun k => E k && wr k) n = fX (fun k => E k && wr k) i := sR hi (fun k a b => by
  cases hE : E k with
  | false => rfl
  | true => rw [h2 k a b hE]; rfl)
 have e2 : fX (fun k => E k && wr k) i = fX wr i := oh (fun k hk => by
  cases hw : wr k with
  | false => simp
  | true => rw [h1 k hk hw]; rfl)
 rw [<- Ek hV hi]; unfold pick; rw [e1, e2]
theorem sm {α : Type} {V : Nat -> α} {wr E E' : Nat -> Bool} {n i : Nat} (hi : i < n) (hE : ∀ k, E' k = (E k || k == i)) (hw : wr i = true)
    (h2 : ∀ k, i < k -> k < n -> E k = true -> wr k = false) : pick V (fun k => E' k && wr k) n = V (i + 1) := by
 have e1 : fX (fun k => E' k && wr k) n = fX (fun k => E' k && wr k) (i + 1) := sR hi (fun k a b => by
  simp only [hE]; have hki : (k == i) = false := by rw [beq_eq_false_iff_ne]; omega
  rw [hki]; cases hEk : E k with
  | false => rfl
  | true => rw [h2 k a b hEk]; rfl)
 unfold pick; rw [e1]; simp [fX, hE, hw]
theorem pN {α : Type} {V : Nat -> α} {wr E E' : Nat -> Bool} {n i : Nat} (hE : ∀ k, E' k = (E k || k == i)) (hw : wr i = false) :
    pick V (fun k => E' k && wr k) n = pick V (fun k => E k && wr k) n := by
 refine E1 (fun k hk => ?_); simp only [hE]
 by_cases e : k = i
 ·subst e; simp [hw]
 ·have : (k == i) = false := by rw [beq_eq_false_iff_ne]; exact e
  simp [this]
def vD (ops : Array Oper) (E : Nat -> Bool) : Prop := ∀ (j : Nat) (o : Oper), ops[j]? = some o -> E j = true -> ∀ e ∈ o.after, Region.binds .any e = true -> E e.on = true
def vn (E : Nat -> Bool) (o : Oper) : Prop := ∀ e ∈ o.after, Region.binds .any e = true -> E e.on = true
theorem wc {acc : List Nat} {i : Nat} : ∀ {l : List Edge} {s : Nat}, Nat.testBit (l.foldl (fun s e => cond (Region.binds .any e) (s ||| (2 ^ e.on ||| acc.getD e.on 0)) s) s) i = true ->
    Nat.testBit s i = true \/ ∃ e ∈ l, Region.binds .any e = true /\ (i = e.on \/ Nat.testBit (acc.getD e.on 0) i = true)
 | [], s, h => .inl h
 | e :: r, s, h => by
   rcases wc (l := r) h with h1 | ⟨e', h1, h2, h3⟩
   ·cases hb : Region.binds .any e with
    | false => simp only [hb, cond_false] at h1; exact .inl h1
    | true =>
      simp only [hb] at h1; simp only [cond_true, Nat.testBit_or, Nat.testBit_two_pow, Bool.or_eq_true, decide_eq_true_eq] at h1; rcases h1 with h1 | h1 | h1
      ·exact .inl h1
      ·exact .inr ⟨e, List.mem_cons_self .., hb, .inl h1.symm⟩
      ·exact .inr ⟨e, List.mem_cons_self .., hb, .inr h1⟩
   ·exact .inr ⟨e', List.mem_cons_of_mem _ h1, h2, h3⟩
theorem sG {ops : Array Oper} {E : Nat -> Bool} (hC : vD ops E) : ∀ (r pre : List Oper) (acc : List Nat), ops.toList = pre ++ r -> acc.length = pre.length ->
    (∀ j o i, pre[j]? = some o -> vn E o -> Nat.testBit (acc.getD j 0) i = true -> E i = true) ->
    ∀ j o i, ops.toList[j]? = some o -> vn E o -> Nat.testBit ((tg r acc).getD j 0) i = true -> E i = true
 | [], pre, acc, he, hl, h => by
   rw [List.append_nil] at he; rw [he]; exact h
 | o :: r, pre, acc, he, hl, h => by
   refine sG hC r (pre ++ [o]) (acc ++ [tj acc o]) (by rw [he]; simp) (by simp [hl]) (fun j o' i hj hP hb => ?_)
   by_cases cW : j < pre.length
   ·rw [List.getElem?_append_left cW] at hj
    have : (acc ++ [tj acc o]).getD j 0 = acc.getD j 0 := by
     simp only [List.getD_eq_getElem?_getD]; rw [List.getElem?_append_left (by omega)]
    rw [this] at hb; exact h j o' i hj hP hb
   ·have hje : j = pre.length := by
      have := (List.getElem?_eq_some_iff.1 hj).1; simp at this; omega
    subst hje; have ho : o' = o := by simpa using hj.symm
    subst ho
    have : (acc ++ [tj acc o']).getD pre.length 0 = tj acc o' := by
     simp only [List.getD_eq_getElem?_getD]; rw [List.getElem?_append_right (by omega)]; simp [hl]
    rw [this] at hb; unfold tj at hb; rcases wc hb with hb | ⟨e, h1, h2, h3⟩
    ·simp at hb
    ·have hEe := hP e (by simpa using h1) h2
     rcases h3 with h3 | h3
     ·rw [h3]; exact hEe
     ·by_cases hlt2 : e.on < pre.length
      ·have hpo := List.getElem?_eq_getElem hlt2
       have hops : ops[e.on]? = some pre[e.on] := by
        have : ops.toList[e.on]? = some pre[e.on] := by rw [he, List.getElem?_append_left hlt2]; exact hpo
        simpa using this
       exact h e.on _ i hpo (fun e' he' hb' => hC e.on _ hops hEe e' he' hb') h3
      ·rw [List.getD_eq_getElem?_getD, List.getElem?_eq_none (by omega)] at h3
       simp at h3
theorem Dq {ops : Array Oper} {E : Nat -> Bool} (hC : vD ops E) {j i : Nat} {o : Oper} (hj : ops[j]? = some o) (hP : vn E o) (hb : Nat.testBit ((wu ops).getD j 0) i = true) : E i = true :=
 sG hC ops.toList [] [] rfl rfl (fun j o i hj => by simp at hj) j o i (by simpa using hj) hP hb
theorem cQ {n : Nat} {l : List Nat} : qm n l = true ↔ n ∈ l := by
 unfold qm; rw [List.any_eq_true]; constructor
 ·rintro ⟨x, h1, h2⟩; rw [Nat.eq_of_beq_eq_true h2]; exact h1
 ·intro h; exact ⟨n, h, Nat.beq_refl n⟩
theorem oU {a b : List Nat} (h : lY a b = true) {n : Nat} (h1 : n ∈ a) (h2 : n ∈ b) : False := by
 have := List.all_eq_true.1 h n h1; rw [cQ.2 h2] at this; cases this
theorem uq {ops : Array Oper} {F : Nat -> aG} {cl : Nat -> Bool} (hok : ox ops F cl = true) {i j : Nat} (hij : i < j) {oi oj : Oper} (hi : ops[i]? = some oi) (hj : ops[j]? = some oj)
    (hc : jN ops oi oj (F i) (F j) (cl i) (cl j) = true) : Nat.testBit ((wu ops).getD j 0) i = true := by
 have hjn : j < ops.size := (Array.getElem?_eq_some_iff.1 hj).1; unfold ox at hok; simp only [Bool.and_eq_true] at hok; have h1 := List.all_eq_true.1 hok.2 j (List.mem_range.2 hjn); have h2 := List.all_eq_true.1 h1 i (List.mem_range.2 hij); unfold FF at h2; simp only [hi, hj] at h2; cases hb : Nat.testBit ((wu ops).getD j 0) i with
 | true => rfl
 | false => rw [hb, hc] at h2; cases h2
theorem JO {ops : Array Oper} (h : back ops = true) {j : Nat} {o : Oper} (hj : ops[j]? = some o) : ∀ e ∈ o.after, Region.binds .any e = true -> e.on < j := by
 intro e he hb; unfold back at h
 have h1 := List.all_eq_true.1 h (o, j) (by
  rw [List.mk_mem_zipIdx_iff_getElem?]; simpa using hj)
 have h2 := List.all_eq_true.1 h1 e (by simpa using he)
 rw [hb] at h2; simp only [Bool.not_true, Bool.false_or, Nat.blt] at h2; exact Nat.le_of_ble_eq_true h2
theorem bo {ops : Array Oper} {oi oj : Oper} {Fi Fj : aG} {ci cj : Bool} (hc : jN ops oi oj Fi Fj ci cj = false) :
    oi.apart ops oj = true /\ (∀ n, n ∈ Fi.wr -> n ∈ Fj.rd -> False) /\ (∀ n, n ∈ Fi.wr -> n ∈ Fj.wr -> False) /\ (∀ n, n ∈ Fi.rd -> n ∈ Fj.wr -> False) /\ (ci = true -> cj = true -> False) := by
 unfold jN at hc; simp only [Bool.or_eq_false_iff, Bool.not_eq_false'] at hc; obtain ⟨⟨⟨⟨h1, h2⟩, h3⟩, h4⟩, h5⟩ := hc; exact ⟨h1, fun n a b => oU h2 a b, fun n a b => oU h3 a b, fun n a b => oU h4 a b, fun a b => by rw [a, b] at h5; cases h5⟩
def mv (t h' : aL) (F : aG) : aL := fun n => if n ∈ F.wr then h' n else t n
theorem kQ (t h' : aL) (F : aG) : lJ t (mv t h' F) h' F := fun _ => rfl
theorem Ck {t t' h' : aL} {F : aG} (h : lJ t t' h' F) : t' = mv t h' F := funext h
def Vt (P : Program) (env : Env) (w0 : Anchor) (ops : Array Oper) (base i : Nat) (fr : Fr) (h : aL) (nx : Nat) (fr' : Fr) (h' : aL) (nx' : Nat) (cl : Bool) (F : aG) : Prop :=
 ∃ o x, ops[i]? = some o /\ fr'.sl = jb fr.sl o.dst x /\ (cl = false -> nx' = nx /\ fr'.df = fr.df) /\ nx <= nx' /\
  ∀ sl2 df2 t nx2, (∀ d ∈ o.looksAt ops, sl2[d]? = fr.sl[d]?) -> (∀ n ∈ F.rd, t n = h n) -> (cl = true -> nx2 = nx /\ df2 = fr.df) -> base + i < nx2 ->
   ∀ ρ a w K Q, Sat env w0 ρ ⟨sl2, df2⟩ t nx2 a w ->
    (∀ ρ' a' w', ρ.le ρ' -> Sat env w0 ρ' ⟨jb sl2 o.dst x, if cl then fr'.df else df2⟩ (mv t h' F) (if cl then nx' else nx2) a' w' -> K a' w') -> wpOp P ops Q i K a w
structure fH (P : Program) (env : Env) (w0 : Anchor) (ops : Array Oper) (base : Nat) (S : Nat -> Fr) (H : Nat -> aL) (N : Nat -> Nat) (F : Nat -> aG) (cl : Nat -> Bool) : Prop where
 step : ∀ i, i < ops.size -> Vt P env w0 ops base i (S i) (H i) (N i) (S (i + 1)) (H (i + 1)) (N (i + 1)) (cl i) (F i)
 cU : ∀ i, i < ops.size -> jh (H i) (H (i + 1)) (F i)
 start : base + ops.size <= N 0
section
variable {P : Program} {env : Env} {w0 : Anchor} {ops : Array Oper} {base : Nat} {S : Nat -> Fr} {H : Nat -> aL} {N : Nat -> Nat} {F : Nat -> aG} {cl : Nat -> Bool}
theorem fH.mono (C : fH P env w0 ops base S H N F cl) : ∀ {i : Nat}, i <= ops.size -> N 0 <= N i
 | 0, _ => Nat.le_refl _
 | i + 1, hi => by
   obtain ⟨o, x, _, _, _, h, _⟩ := C.step i (by omega)
   exact Nat.le_trans (C.mono (i := i) (by omega)) h
theorem fH.abZ (C : fH P env w0 ops base S H N F cl) {i : Nat} (hi : i < ops.size) : mv (H i) (H (i + 1)) (F i) = H (i + 1) := by
 funext n
 unfold mv
 by_cases h : n ∈ (F i).wr
 ·rw [if_pos h]
 ·rw [if_neg h, C.cU i hi n h]
theorem fH.Iu (C : fH P env w0 ops base S H N F cl) {Q : Exit -> Act -> World -> Prop} : ∀ (k i : Nat), i + k = ops.size -> ∀ ρ a w, Sat env w0 ρ (S i) (H i) (N i) a w ->
    (∀ ρ' a' w', ρ.le ρ' -> Sat env w0 ρ' (S ops.size) (H ops.size) (N ops.size) a' w' -> Q .normal a' w') -> wpOps P ops Q (List.range' i k) a w
 | 0, i, hi, ρ, a, w, hs, hq => by
   obtain rfl : i = ops.size := by omega
   exact hq ρ a w (af.le_refl ρ) hs
 | k + 1, i, hi, ρ, a, w, hs, hq => by
   rw [List.range'_succ, wpOps_cons]; obtain ⟨o, x, ho, hsl, hcl, hle, hok⟩ := C.step i (by omega)
   have hb : base + i < N i := by have := C.mono (i := i) (by omega); have := C.start; omega
   refine hok (S i).sl (S i).df (H i) (N i) (fun d _ => rfl) (fun n _ => rfl) (fun _ => ⟨rfl, rfl⟩) hb ρ a w _ Q hs (fun ρ' a' w' hl hs' => ?_); rw [C.abZ (by omega), <- hsl] at hs'
   have e1 : (⟨(S (i + 1)).sl, if cl i then (S (i + 1)).df else (S i).df⟩ : Fr) = S (i + 1) := by
    cases hc : cl i with
    | true => simp
    | false => simp only [Bool.false_eq_true, if_false]; rw [<- (hcl hc).2]
   have e2 : (if cl i then N (i + 1) else N i) = N (i + 1) := by
    cases hc : cl i with
    | true => simp
    | false => simp only [Bool.false_eq_true, if_false]; exact (hcl hc).1.symm
   rw [e1, e2] at hs'; exact C.Iu k (i + 1) (by omega) ρ' a' w' hs' (fun ρ'' a'' w'' h1 h2 => hq ρ'' a'' w'' (af.le_trans hl h1) h2)
theorem NR {sl : List SV} {dst : Option Tmp} {v : SV} : (jb sl dst v).length = sl.length := by cases dst <;> simp [jb]
theorem wX {sl : List SV} {dst : Option Tmp} {v : SV} {d : Nat} : (jb sl dst v)[d]? = if dst = some d /\ d < sl.length then some v else sl[d]? := by
 cases dst with
 | none => simp [jb]
 | some e =>
   simp only [jb, List.getElem?_set, Option.some.injEq]
   by_cases h : e = d
   ·subst h
    by_cases h2 : e < sl.length
    ·simp [h2]
    ·simp [h2]
   ·simp [h]
theorem fH.len (C : fH P env w0 ops base S H N F cl) : ∀ {i : Nat}, i <= ops.size -> (S i).sl.length = (S 0).sl.length
 | 0, _ => rfl
 | i + 1, hi => by
   obtain ⟨o, x, _, h, _⟩ := C.step i (by omega)
   rw [h, NR]; exact C.len (i := i) (by omega)
def jJ (ops : Array Oper) (d : Nat) (k : Nat) : Bool := ((ops[k]?).bind (·.dst)) == some d
def TE (ops : Array Oper) (S : Nat -> Fr) (cl : Nat -> Bool) (E : Nat -> Bool) : Fr :=
 ⟨(List.range (S 0).sl.length).map fun d => pick (fun k => (S k).sl.getD d bH) (fun k => E k && jJ ops d k) ops.size, pick (fun k => (S k).df) (fun k => E k && cl k) ops.size⟩
def TH (ops : Array Oper) (H : Nat -> aL) (F : Nat -> aG) (E : Nat -> Bool) : aL := fun m => pick (fun k => H k m) (fun k => E k && qm m (F k).wr) ops.size
def TN (ops : Array Oper) (N : Nat -> Nat) (cl : Nat -> Bool) (E : Nat -> Bool) : Nat := pick N (fun k => E k && cl k) ops.size
theorem fH.slot (C : fH P env w0 ops base S H N F cl) (d : Nat) {k : Nat} (hk : k < ops.size) (h : jJ ops d k = false) : (S (k + 1)).sl.getD d bH = (S k).sl.getD d bH := by
 obtain ⟨o, x, ho, hsl, _⟩ := C.step k hk; simp only [List.getD_eq_getElem?_getD]; rw [hsl, wX]; rw [if_neg]; intro hc; unfold jJ at h; rw [ho] at h; simp [hc.1] at h
theorem fH.cell (C : fH P env w0 ops base S H N F cl) (m : Nat) {k : Nat} (hk : k < ops.size) (h : qm m (F k).wr = false) : H (k + 1) m = H k m :=
 C.cU k hk m (fun hm => by rw [cQ.2 hm] at h; cases h)
theorem fH.num (C : fH P env w0 ops base S H N F cl) {k : Nat} (hk : k < ops.size) (h : cl k = false) : N (k + 1) = N k /\ (S (k + 1)).df = (S k).df := by
 obtain ⟨o, x, _, _, hcl, _⟩ := C.step k hk; exact hcl h
theorem tv {E : Nat -> Bool} {d : Nat} (hd : d < (S 0).sl.length) : (TE ops S cl E).sl[d]? = some (pick (fun k => (S k).sl.getD d bH) (fun k => E k && jJ ops d k) ops.size) := by
 simp [TE, hd]
theorem tp {E : Nat -> Bool} : (TE ops S cl E).sl.length = (S 0).sl.length := by simp [TE]
theorem fH.one (C : fH P env w0 ops base S H N F cl) (hok : ox ops F cl = true) {E E' : Nat -> Bool} (hC : vD ops E) {i : Nat} (hi : i < ops.size) (hEi : E i = false)
    (hP : ∀ o, ops[i]? = some o -> vn E o) (hE' : ∀ k, E' k = (E k || k == i)) {Q : Exit -> Act -> World -> Prop} {K : Act -> World -> Prop} {ρ : af} {a : Act} {w : World}
    (hs : Sat env w0 ρ (TE ops S cl E) (TH ops H F E) (TN ops N cl E) a w)
    (hK : ∀ ρ' a' w', ρ.le ρ' -> Sat env w0 ρ' (TE ops S cl E') (TH ops H F E') (TN ops N cl E') a' w' -> K a' w') : wpOp P ops Q i K a w := by
 obtain ⟨o, x, ho, hsl, hcl, hle, hop⟩ := C.step i hi
 have ahead : ∀ k ok, k < i -> ops[k]? = some ok -> jN ops ok o (F k) (F i) (cl k) (cl i) = true -> E k = true := fun k ok hk hko hc =>
  Dq hC ho (hP o ho) (uq hok hk hko ho hc)
 have behind : ∀ k ok, i < k -> ops[k]? = some ok -> E k = true -> jN ops o ok (F i) (F k) (cl i) (cl k) = true -> False := fun k ok hk hko hEk hc => by
  have := Dq hC hko (fun e he hb => hC k ok hko hEk e he hb) (uq hok hk ho hko hc); rw [hEi] at this; cases this
 have getop : ∀ k, k < ops.size -> ∃ ok, ops[k]? = some ok := fun k hk => ⟨ops[k], Array.getElem?_eq_getElem hk⟩
 have hslots : ∀ d ∈ o.looksAt ops, (TE ops S cl E).sl[d]? = (S i).sl[d]? := by
  intro d0 hd; obtain ⟨d, rfl⟩ : ∃ d : Nat, d = d0 := ⟨d0, rfl⟩
  by_cases cW : d < (S 0).sl.length
  ·rw [tv cW]
   have h1 := rE (V := fun k => (S k).sl.getD d bH) (wr := jJ ops d) (E := E) (n := ops.size) (i := i) (fun k hk h => C.slot d hk h) (by omega)
    (fun k hk hw => by
     obtain ⟨ok, hko⟩ := getop k (by omega)
     refine ahead k ok hk hko ?_; cases hcl : jN ops ok o (F k) (F i) (cl k) (cl i) with
     | true => rfl
     | false =>
       have hdst : ok.dst = some d := by unfold jJ at hw; rw [hko] at hw; simpa using hw
       exact absurd hd ((Oper.apart_spec (bo hcl).1).1 d hdst))
    (fun k hk1 hk2 hEk => by
     cases hw : jJ ops d k with
     | false => rfl
     | true =>
       exfalso; have hne : k ≠ i := fun e => by rw [e, hEi] at hEk; cases hEk
       obtain ⟨ok, hko⟩ := getop k hk2; have hdst : ok.dst = some d := by unfold jJ at hw; rw [hko] at hw; simpa using hw
       refine behind k ok (by omega) hko hEk ?_
       cases hcl : jN ops o ok (F i) (F k) (cl i) (cl k) with
       | true => rfl
       | false => exact absurd hd ((Oper.apart_spec (bo hcl).1).2.2 d hdst))
   rw [h1]; have hlt2 : d < (S i).sl.length := by rw [C.len (by omega)]; exact cW
   simp only [List.getD_eq_getElem?_getD, List.getElem?_eq_getElem hlt2, Option.getD_some]
  ·rw [List.getElem?_eq_none (by rw [tp]; exact Nat.le_of_not_lt cW), List.getElem?_eq_none (by rw [C.len (i := i) (by omega)]; exact Nat.le_of_not_lt cW)]
 have hnames : ∀ m ∈ (F i).rd, TH ops H F E m = H i m := by
  intro m hm
  exact rE (V := fun k => H k m) (wr := fun k => qm m (F k).wr) (E := E) (fun k hk h => C.cell m hk h) (by omega)
   (fun k hk hw => by
    obtain ⟨ok, hko⟩ := getop k (by omega)
    refine ahead k ok hk hko ?_; cases hcl : jN ops ok o (F k) (F i) (cl k) (cl i) with
    | true => rfl
    | false => exact ((bo hcl).2.1 m (cQ.1 hw) hm).elim)
   (fun k hk1 hk2 hEk => by
    cases hw : qm m (F k).wr with
    | false => rfl
    | true =>
      exfalso; have hne : k ≠ i := fun e => by rw [e, hEi] at hEk; cases hEk
      obtain ⟨ok, hko⟩ := getop k hk2; refine behind k ok (by omega) hko hEk ?_
      cases hcl : jN ops o ok (F i) (F k) (cl i) (cl k) with
      | true => rfl
      | false => exact ((bo hcl).2.2.2.1 m hm (cQ.1 hw)).elim)
 have clA : cl i = true -> ∀ k, k < i -> cl k = true -> E k = true := fun hci k hk hck => by
  obtain ⟨ok, hko⟩ := getop k (by omega)
  refine ahead k ok hk hko ?_; cases hcl : jN ops ok o (F k) (F i) (cl k) (cl i) with
  | true => rfl
  | false => exact ((bo hcl).2.2.2.2 hck hci).elim
 have clB : cl i = true -> ∀ k, i <= k -> k < ops.size -> E k = true -> cl k = false := fun hci k hk1 hk2 hEk => by
  cases hw : cl k with
  | false => rfl
  | true =>
    exfalso; have hne : k ≠ i := fun e => by rw [e, hEi] at hEk; cases hEk
    obtain ⟨ok, hko⟩ := getop k hk2; refine behind k ok (by omega) hko hEk ?_
    cases hcl : jN ops o ok (F i) (F k) (cl i) (cl k) with
    | true => rfl
    | false => exact ((bo hcl).2.2.2.2 hci hw).elim
 have hnum : cl i = true -> TN ops N cl E = N i /\ (TE ops S cl E).df = (S i).df := fun hci =>
  ⟨rE (V := N) (wr := cl) (fun k hk h => (C.num hk h).1) (by omega) (clA hci) (clB hci),
   rE (V := fun k => (S k).df) (wr := cl) (fun k hk h => (C.num hk h).2) (by omega) (clA hci) (clB hci)⟩
 have hlow : base + i < TN ops N cl E := by
  have hst := C.start
  have : N 0 <= TN ops N cl E := by
   unfold TN pick; cases hl : fX (fun k => E k && cl k) ops.size with
   | none => exact Nat.le_refl _
   | some j =>
     have : j < ops.size := by
      clear hs hK hnames hslots hnum
      have : ∀ (p : Nat -> Bool) (n j : Nat), fX p n = some j -> j < n := by
       intro p n
       induction n with
       | zero => intro j h; cases h
       | succ n ih =>
         intro j h; simp only [fX] at h; split at h
         ·injection h with h; omega
         ·have := ih j h; omega
      exact this _ _ _ hl
     exact C.mono (by omega)
  omega
 refine hop (TE ops S cl E).sl (TE ops S cl E).df (TH ops H F E) (TN ops N cl E) hslots hnames hnum hlow ρ a w K Q hs (fun ρ' a' w' hl hs' => hK ρ' a' w' hl ?_)
 have e1 : jb (TE ops S cl E).sl o.dst x = (TE ops S cl E').sl := by
  apply List.ext_getElem?
  intro d; rw [wX, tp]
  by_cases cW : d < (S 0).sl.length
  ·by_cases hd : o.dst = some d
   ·rw [if_pos ⟨hd, cW⟩, tv cW]; have hw : jJ ops d i = true := by unfold jJ; rw [ho]; simp [hd]
    have := sm (V := fun k => (S k).sl.getD d bH) (wr := jJ ops d) (E := E) (E' := E') hi hE' hw (fun k hk1 hk2 hEk => by
     cases hwk : jJ ops d k with
     | false => rfl
     | true =>
       exfalso; obtain ⟨ok, hko⟩ := getop k hk2; have hdst : ok.dst = some d := by unfold jJ at hwk; rw [hko] at hwk; simpa using hwk
       refine behind k ok hk1 hko hEk ?_; cases hcl : jN ops o ok (F i) (F k) (cl i) (cl k) with
       | true => rfl
       | false => exact absurd hdst ((Oper.apart_spec (bo hcl).1).2.1 d hd))
    rw [this]; have hlt2 : d < (S i).sl.length := by rw [C.len (by omega)]; exact cW
    simp only [List.getD_eq_getElem?_getD]; rw [hsl, wX, if_pos ⟨hd, hlt2⟩]; rfl
   ·rw [if_neg (fun hc => hd hc.1), tv cW, tv cW]
    congr 1
    exact (pN hE' (by unfold jJ; rw [ho]; simpa using hd)).symm
  ·rw [if_neg (fun hc => cW hc.2), List.getElem?_eq_none (by rw [tp]; omega), List.getElem?_eq_none (by rw [tp]; omega)]
 have e2 : (if cl i then (S (i + 1)).df else (TE ops S cl E).df) = (TE ops S cl E').df := by
  cases hc : cl i with
  | true =>
    simp only [if_true]; exact (sm (V := fun k => (S k).df) (wr := cl) hi hE' hc (fun k h1 h2 h3 => clB hc k (by omega) h2 h3)).symm
  | false =>
    simp only [Bool.false_eq_true, if_false]; exact (pN (V := fun k => (S k).df) hE' hc).symm
 have e3 : mv (TH ops H F E) (H (i + 1)) (F i) = TH ops H F E' := by
  funext m
  unfold mv
  by_cases hm : m ∈ (F i).wr
  ·rw [if_pos hm]
   exact (sm (V := fun k => H k m) (wr := fun k => qm m (F k).wr) hi hE' (cQ.2 hm) (fun k hk1 hk2 hEk => by
    cases hw : qm m (F k).wr with
    | false => rfl
    | true =>
      exfalso; obtain ⟨ok, hko⟩ := getop k hk2; refine behind k ok hk1 hko hEk ?_; cases hcl : jN ops o ok (F i) (F k) (cl i) (cl k) with
      | true => rfl
      | false => exact ((bo hcl).2.2.1 m hm (cQ.1 hw)).elim)).symm
  ·rw [if_neg hm]; refine (pN hE' ?_).symm; cases hw : qm m (F i).wr with
   | false => rfl
   | true => exact absurd (cQ.1 hw) hm
 have e4 : (if cl i then N (i + 1) else TN ops N cl E) = TN ops N cl E' := by
  cases hc : cl i with
  | true =>
    simp only [if_true]; exact (sm (V := N) (wr := cl) hi hE' hc (fun k h1 h2 h3 => clB hc k (by omega) h2 h3)).symm
  | false =>
    simp only [Bool.false_eq_true, if_false]; exact (pN hE' hc).symm
 rw [e1, e2, e3, e4] at hs'; exact hs'
theorem fH.all (C : fH P env w0 ops base S H N F cl) {E : Nat -> Bool} (hE : ∀ k, k < ops.size -> E k = true) :
    TE ops S cl E = S ops.size /\ TH ops H F E = H ops.size /\ TN ops N cl E = N ops.size := by
 have one : ∀ {α : Type} (V : Nat -> α) (wr : Nat -> Bool), (∀ k, k < ops.size -> wr k = false -> V (k + 1) = V k) -> pick V (fun k => E k && wr k) ops.size = V ops.size := fun V wr h =>
  rE h (Nat.le_refl _) (fun k hk _ => hE k hk) (fun k h1 h2 => by omega)
 refine ⟨?_, ?_, one N cl (fun k hk h => (C.num hk h).1)⟩
 ·have h1 : (TE ops S cl E).sl = (S ops.size).sl := by
    apply List.ext_getElem?
    intro d
    by_cases cW : d < (S 0).sl.length
    ·rw [tv cW, one (fun k => (S k).sl.getD d bH) (jJ ops d) (fun k hk h => C.slot d hk h)]; have hlt2 : d < (S ops.size).sl.length := by rw [C.len (Nat.le_refl _)]; exact cW
     simp only [List.getD_eq_getElem?_getD, List.getElem?_eq_getElem hlt2, Option.getD_some]
    ·rw [List.getElem?_eq_none (by rw [tp]; omega), List.getElem?_eq_none (by rw [C.len (Nat.le_refl _)]; omega)]
  have h2 : (TE ops S cl E).df = (S ops.size).df := one (fun k => (S k).df) cl (fun k hk h => (C.num hk h).2); cases hS : S ops.size with
  | mk sl df => rw [hS] at h1 h2; cases hT : TE ops S cl E with | mk sl' df' => rw [hT] at h1 h2; simp only at h1 h2; rw [h1, h2]
 ·funext m
  exact one (fun k => H k m) (fun k => qm m (F k).wr) (fun k hk h => C.cell m hk h)
theorem fH.none (C : fH P env w0 ops base S H N F cl) {E : Nat -> Bool} (hE : ∀ k, k < ops.size -> E k = false) :
    TE ops S cl E = S 0 /\ TH ops H F E = H 0 /\ TN ops N cl E = N 0 := by
 have one : ∀ {α : Type} (V : Nat -> α) (wr : Nat -> Bool), pick V (fun k => E k && wr k) ops.size = V 0 := fun V wr =>
  Ki (fun k hk => by rw [hE k hk]; rfl)
 refine ⟨?_, funext fun m => one _ _, one _ _⟩
 have h1 : (TE ops S cl E).sl = (S 0).sl := by
  apply List.ext_getElem?
  intro d
  by_cases cW : d < (S 0).sl.length
  ·rw [tv cW, one (fun k => (S k).sl.getD d bH) (jJ ops d)]; simp only [List.getD_eq_getElem?_getD, List.getElem?_eq_getElem cW, Option.getD_some]
  ·rw [List.getElem?_eq_none (by rw [tp]; omega), List.getElem?_eq_none (by omega)]
 have h2 : (TE ops S cl E).df = (S 0).df := one (fun k => (S k).df) cl; cases hS : S 0 with
 | mk sl df => rw [hS] at h1 h2; cases hT : TE ops S cl E with | mk sl' df' => rw [hT] at h1 h2; simp only at h1 h2; rw [h1, h2]
def qH (ops : Array Oper) (listed : Array Bool) : Nat := (List.range ops.size).countP fun j => !listed.getD j false
theorem fH.Md (C : fH P env w0 ops base S H N F cl) (hok : ox ops F cl = true) {Q : Exit -> Act -> World -> Prop} : ∀ (fuel : Nat) (listed : Array Bool), listed.size = ops.size -> qH ops listed = fuel ->
    vD ops (fun j => listed.getD j false) -> ∀ ρ a w, Sat env w0 ρ (TE ops S cl fun j => listed.getD j false) (TH ops H F fun j => listed.getD j false) (TN ops N cl fun j => listed.getD j false) a w ->
    (∀ ρ' a' w', ρ.le ρ' -> Sat env w0 ρ' (S ops.size) (H ops.size) (N ops.size) a' w' -> Q .normal a' w') -> wpAny P .any ops Q fuel listed a w := by
 have hback : back ops = true := by unfold ox at hok; simp only [Bool.and_eq_true] at hok; exact hok.1.1
 intro fuel
 induction fuel with
 | zero =>
   intro listed hsz hun hC ρ a w hs hq
   have cJ : ∀ k, k < ops.size -> listed.getD k false = true := fun k hk => by
    have := List.countP_eq_zero.1 hun k (List.mem_range.2 hk); simpa using this
   obtain ⟨h1, h2, h3⟩ := C.all cJ; rw [h1, h2, h3] at hs; refine ⟨?_, hq ρ a w (af.le_refl ρ) hs⟩; unfold Region.ready; rw [List.filter_eq_nil_iff]; intro k hk; have hk' := List.mem_range.1 hk; have := cJ k hk'; have cW : k < listed.size := by omega
   simp [cW] at this ⊢; intro hf; rw [this] at hf; cases hf
 | succ fuel ih =>
   intro listed hsz hun hC ρ a w hs hq; refine ⟨fun hnil => ?_, fun i hi => ?_⟩
   ·
    exfalso
    have cJ : ∀ k, k < ops.size -> listed.getD k false = true := by
     intro k
     induction k using Nat.strongRecOn with
     | _ k ihk =>
       intro hk; cases hkl : listed.getD k false with
       | true => rfl
       | false =>
         exfalso; have cW : k < listed.size := by omega
         have : k ∈ Region.ready .any ops listed := by
          rw [mem_ready]; refine ⟨?_, ops[k], Array.getElem?_eq_getElem hk, fun e he hb => ?_⟩
          ·simp [cW] at hkl ⊢; exact hkl
          ·have hlt2 := JO hback (Array.getElem?_eq_getElem hk) e he hb; exact ihk e.on hlt2 (by omega)
         rw [hnil] at this; cases this
    have : qH ops listed = 0 := List.countP_eq_zero.2 (fun k hk => by
     have := cJ k (List.mem_range.1 hk)
     simp only [this]; simp)
    omega
   ·rw [mem_ready] at hi; obtain ⟨h0, o, ho, hpre⟩ := hi; have hin : i < ops.size := (Array.getElem?_eq_some_iff.1 ho).1; have cW : i < listed.size := by omega
    have hEi : listed.getD i false = false := by simp [cW] at h0 ⊢; exact h0
    have hE' : ∀ k, (listed.setIfInBounds i true).getD k false = (listed.getD k false || k == i) := by
     intro k
     by_cases e : k = i
     ·subst e; simp [cW]
     ·have : (k == i) = false := by rw [beq_eq_false_iff_ne]; exact e
      rw [this, getD_set_ne false (fun h => e h.symm)]; simp
    have hC' : vD ops (fun j => (listed.setIfInBounds i true).getD j false) := by
     intro j oj hj hEj e he hb; simp only [hE', Bool.or_eq_true, beq_iff_eq] at hEj ⊢; rcases hEj with h | h
     ·exact .inl (hC j oj hj h e he hb)
     ·subst h; rw [ho] at hj; injection hj with hj; subst hj; exact .inl (hpre e he hb)
    have hun' : qH ops (listed.setIfInBounds i true) = fuel := by
     have : qH ops listed = qH ops (listed.setIfInBounds i true) + 1 := by
      unfold qH
      exact countP_one (p := fun j => !listed.getD j false) (q := fun j => !(listed.setIfInBounds i true).getD j false) (List.mem_range.2 hin) List.nodup_range (by simp only [hEi]; rfl)
       (fun k => by simp only [hE']; by_cases e : k = i <;> simp [e])
     omega
    refine C.one hok hC hin hEi (fun o' ho' => by rw [ho] at ho'; injection ho' with ho'; subst ho'; exact hpre) hE' hs (fun ρ' a' w' hl hs' => ?_)
    exact ih _ (by simp [hsz]) hun' hC' ρ' a' w' hs' (fun ρ'' a'' w'' h1 h2 => hq ρ'' a'' w'' (af.le_trans hl h1) h2)
where
 countP_one {p q : Nat -> Bool} {i : Nat} : ∀ {l : List Nat}, i ∈ l -> l.Nodup -> p i = true -> (∀ k, q k = (p k && !(k == i))) -> l.countP p = l.countP q + 1
  | [], hm, _, _, _ => by cases hm
  | x :: r, hm, hnd, hp, hq => by
    rw [List.nodup_cons] at hnd
    by_cases e : x = i
    ·subst e; have hqx : q x = false := by rw [hq]; simp
     have hrest : r.countP p = r.countP q := by
      apply List.countP_congr; intro k hk; have : k ≠ x := fun e => hnd.1 (e ▸ hk); rw [hq]; simp [this]
     simp [List.countP_cons, hp, hqx, hrest]
    ·have hm' : i ∈ r := by rcases List.mem_cons.1 hm with h | h; exact absurd h.symm e; exact h
     have ih := countP_one hm' hnd.2 hp hq; have hqx : q x = p x := by rw [hq]; simp [e]
     simp only [List.countP_cons, hqx, ih]; omega
end
def IN (env : Env) (w0 : Anchor) (ρ : af) (r : SV) (h' : aL) (nx' : Nat) (e : Ending) (w' : World) : Prop :=
 ∃ ρ' v, e = .returned v /\ ρ.le ρ' /\ az env w0 ρ' h' w' /\ (∀ n p, ρ' n = some p -> n < nx') /\ r.Rel env ρ' v
def Sound (P : Program) (env : Env) (w0 : Anchor) : KD -> Prop
 | .op ops base i fr h nx fr' h' nx' cl F => Vt P env w0 ops base i fr h nx fr' h' nx' cl F
 | .code c fr h nx ex fr' h' nx' F => nx <= nx' /\ ∀ t, (∀ n ∈ F.rd, t n = h n) -> ∀ ρ a w Q, Sat env w0 ρ fr t nx a w ->
     (∀ ρ' a' w', ρ.le ρ' -> Sat env w0 ρ' fr' (mv t h' F) nx' a' w' -> Q ex.den a' w') -> c.wp P Q a w
 | .loop c fr h nx ex fr' h' nx' F => nx <= nx' /\ ∃ k, ∀ t, (∀ n ∈ F.rd, t n = h n) -> ∀ ρ a w Q, Sat env w0 ρ fr t nx a w ->
     (∀ ρ' a' w', ρ.le ρ' -> Sat env w0 ρ' fr' (mv t h' F) nx' a' w' -> Q ex.den a' w') -> Code.rounds P c Q k a w
 | .defs ds h nx h' nx' F => nx <= nx' /\ ∀ t, (∀ n ∈ F.rd, t n = h n) -> ∀ ρ w ds' fn tmps R, az env w0 ρ t w -> (∀ n p, ρ n = some p -> n < nx) -> eZ env ρ ds ds' ->
     (∀ ρ' w', ρ.le ρ' -> az env w0 ρ' (mv t h' F) w' -> (∀ n p, ρ' n = some p -> n < nx') -> Leaves P fn tmps R [] .returning w') -> Leaves P fn tmps R ds' .returning w
 | .fn dfr f args h nx r h' nx' F => nx <= nx' /\ ∀ t, (∀ n ∈ F.rd, t n = h n) -> ∀ ρ w vs, az env w0 ρ t w -> (∀ n p, ρ n = some p -> n < nx) -> SV.aD env ρ args vs ->
     Calls P f vs.toArray w (IN env w0 ρ r (mv t h' F) nx') /\ (dfr = true -> ∀ u, CallsD P f vs.toArray u w fun e u' w' => u' = u /\ IN env w0 ρ r (mv t h' F) nx' e w')
section
variable {P : Program} {env : Env} {w0 : Anchor} {X : Ext}
theorem xv {ops : Array Oper} {sl : List SV} {o : Oper} {b : Bool} {ρ : af} {tmps : Array Value} (hs : SV.aD env ρ sl tmps.toList) (h : mM env ops sl o = some b) :
    Region.wanted o (yielded ops tmps) = b := by
 unfold mM at h; unfold Region.wanted; cases hg : o.guard with
 | none => rw [hg] at h; simpa using h
 | some q =>
   obtain ⟨j, want⟩ := q; rw [hg] at h; simp only at h ⊢; unfold yielded; cases hd : (ops[j]?).bind (·.dst) with
   | none => rw [hd] at h; cases h
   | some d =>
     rw [hd] at h; simp only at h; cases hx : sl[d]? with
     | none => rw [hx] at h; cases h
     | some x =>
       obtain ⟨v, hv, hr⟩ := hs.get hx; have hv' : tmps[d]? = some v := by simpa using hv
       simp only [Option.bind_some, hv']; rw [hx] at h; cases x with
       | bool e =>
         simp only [SV.Rel] at hr; subst hr; injection h with h
       | fq l =>
         cases l with
         | nil =>
           simp only [SV.Rel, SV.aD] at hr; obtain ⟨y, rfl, rfl⟩ := hr; injection h with h
         | cons y r => cases h
       | _ => cases h
theorem kB {ρ : af} {sl : List SV} {a : Act} {dst : Option Tmp} {x : SV} {v : Value} (hs : SV.aD env ρ sl a.tmps.toList) (hx : x.Rel env ρ v) :
    SV.aD env ρ (jb sl dst x) (a.put dst v).tmps.toList := by
 cases dst with
 | none => exact hs
 | some d =>
   simp only [jb, Act.put, Array.toList_setIfInBounds]; exact hs.set d hx
theorem pQ {ρ : af} : SV.Rel env ρ bH undef := ⟨[], rfl, rfl⟩
theorem put_defers {a : Act} {dst : Option Tmp} {v : Value} : (a.put dst v).defers = a.defers := by cases dst <;> rfl
theorem E9 (hP : Plain P) {ops : Array Oper} {base i : Nat} {fr : Fr} {h h' : aL} {nx : Nat} {o : Oper} {out : ph} {F : aG} {x : SV} {df' : List (FuncId × List SV)} {cl : Bool}
    (ho : ops[i]? = some o) (hw : mM env ops fr.sl o = some true) (he : (lb P (base + i) (ff fr.sl) o.op).Ev env h out h' aG.nil F) (hcl : cl = false -> df' = fr.df)
    (hout : ∀ (ρ : af) (n : Next), ND env ρ out n -> (∃ v, x.Rel env ρ v /\ ((n = .value v /\ df' = fr.df) \/ (n = .skip /\ v = undef /\ df' = fr.df) \/
     (∃ d q l, cl = true /\ n = .defer d /\ v = undef /\ df' = (q, l) :: fr.df /\ ∀ ds r, eZ env ρ ds r -> eZ env ρ ((q, l) :: ds) (d :: r))))) :
    Vt P env w0 ops base i fr h nx ⟨jb fr.sl o.dst x, df'⟩ h' nx cl F := by
 refine ⟨o, x, ho, rfl, fun h => ⟨rfl, hcl h⟩, Nat.le_refl _, fun sl2 df2 t nx2 h1 h2 h3 h4 ρ a w K Q hs hK => ?_⟩; obtain ⟨k, hl⟩ := eD he; obtain ⟨t', g1, g2⟩ := hl t h2; have ht' := Ck g2; subst ht'
 have hrun : (lb P (base + i) (ff sl2) o.op).bx env t out (mv t h' F) := by
  have := g1.run; rw [<- ka (mC h1)] at this; exact this
 obtain ⟨n, w', ρ', r1, r2, r3, r4, r5⟩ := MF hP hs.hs hs.sl (o := o) hrun; have hwant : Region.wanted o (yielded ops a.tmps) = true := xv hs.sl (by rw [eO h1]; exact hw)
 have hnx : ∀ m p, ρ' m = some p -> m < nx2 := by
  intro m p hm; cases hρ : ρ m with
  | some q => exact hs.nx m q hρ
  | none =>
    rcases r3 m hρ with e | e
    ·rw [e] at hm; cases hm
    ·omega
 have e2 : (if cl then nx else nx2) = nx2 := by
  cases hc : cl with
  | true => simp only [if_true]; exact (h3 hc).1.symm
  | false => simp
 unfold wpOp; simp only [ho, hwant, if_true]; refine .inl ?_; unfold Oper.wp; rw [r1]; obtain ⟨v, hv, hcase⟩ := hout ρ' n r5
 have fin : ∀ a', a'.tmps = (a.put o.dst v).tmps -> eZ env ρ' (if cl then df' else df2) a'.defers -> K a' w' := fun a' ha hd =>
  hK ρ' a' w' r2 ⟨r4, by rw [ha]; exact kB (hs.sl.mono r2) hv, hd, by rw [e2]; exact hnx⟩
 have df_same : df' = fr.df -> eZ env ρ' (if cl then df' else df2) (a.put o.dst v).defers := by
  intro e; rw [put_defers]; cases hc : cl with
  | true => simp only [if_true]; rw [e, <- (h3 hc).2]; exact hs.df.mono r2
  | false => simp only [Bool.false_eq_true, if_false]; exact hs.df.mono r2
 rcases hcase with ⟨rfl, e⟩ | ⟨rfl, rfl, e⟩ | ⟨d, q, l, hc, rfl, rfl, e, hd⟩
 ·exact fin _ rfl (df_same e)
 ·exact fin _ rfl (df_same e)
 ·refine fin _ (by cases o.dst <;> rfl) ?_
  simp only [hc, if_true]; rw [e, <- (h3 hc).2]; rw [put_defers]; exact hd _ _ (hs.df.mono r2)
theorem o9 {t b c : aL} {F G : aG} (k : jh b c G) : mv (mv t b F) c G = mv t c (F.add G) :=
 Ck ((kQ t b F).trans (kQ (mv t b F) c G) k)
theorem Cc {ρ : af} {ks : aJ} {e i : E} {j : Nat} {v : Value} (hv : (SV.dC ks e i j).Rel env ρ v) {t : TypeId} {w : World} :
    (do loadVar t (<- asAddr v) : Sem Value).run P w = (Instr.loadAt t v).run P w := by
 simp only [SV.Rel] at hv; obtain ⟨b, o, rfl, _⟩ := hv; rfl
theorem FB {ρ : af} {n : Nat} {off : mg} {v : Value} (hv : (SV.ptr n off).Rel env ρ v) {t : TypeId} {w : World} :
    (do loadVar t (<- asAddr v) : Sem Value).run P w = (Instr.loadAt t v).run P w := by
 simp only [SV.Rel] at hv; obtain ⟨p, _, rfl⟩ := hv; rfl
def X9 (tmps : Array Value) : ResultVar -> Sem Value
 | .tmp t => pure (tmps.getD t undef)
 | .cell a t => do loadVar t (<- asAddr (tmps.getD a undef))
theorem Ka {ρ : af} {h : aL} {w : World} (H : az env w0 ρ h w) {sl : List SV} {tmps : Array Value} (hs : SV.aD env ρ sl tmps.toList) : ∀ (l : List ResultVar) {r : List SV} {h' : aL},
    (yg P sl l).bx env h r h' -> h = h' /\ ∃ vs, SV.aD env ρ r vs /\ (l.mapM (X9 tmps)).run P w = .ok vs w := by
 have hev : ∀ t, (sl[t]?.getD bH).Rel env ρ (tmps.getD t undef) := fun t => by
  let a : Act := ⟨tmps, []⟩
  exact wj (a := a) (x := .tmp t) hs rfl
 have one : ∀ {x : ResultVar} {s : SV} {h2 : aL}, (BE P sl x).bx env h s h2 -> h = h2 /\ ∃ v, s.Rel env ρ v /\ (X9 tmps x).run P w = .ok v w := by
  intro x s h2 hx; cases x with
  | tmp t =>
    simp only [BE, aT] at hx; obtain ⟨rfl, rfl⟩ := hx; exact ⟨rfl, _, hev t, rfl⟩
  | cell a t =>
    simp only [BE] at hx; have hp := hev a; generalize sl[a]?.getD bH = y at hx hp; cases y with
    | ptr n off =>
      obtain ⟨rfl, v, hrun, hv⟩ := qJ H hp hx; exact ⟨rfl, v, hv, by rw [<- hrun]; exact FB hp⟩
    | dC ks e i j =>
      obtain ⟨rfl, v, hrun, hv⟩ := qJ H hp hx; exact ⟨rfl, v, hv, by rw [<- hrun]; exact Cc hp⟩
    | _ => exact hx.elim
 intro l
 induction l with
 | nil =>
   intro r h' hr; simp only [yg, aT] at hr; obtain ⟨rfl, rfl⟩ := hr; exact ⟨rfl, [], rfl, rfl⟩
 | cons x l ih =>
   intro r h' hr; simp only [yg, run_bind, run_pure] at hr; obtain ⟨s, h1, hx, q, h2, hl, rfl, rfl⟩ := hr; obtain ⟨rfl, v, hv, hrun⟩ := one hx; obtain ⟨rfl, vs, hvs, hrun2⟩ := ih hl; refine ⟨rfl, v :: vs, ⟨v, vs, rfl, hv, hvs⟩, ?_⟩; rw [List.mapM_cons]; simp only [Sem.run_bind, hrun, Result.andThen_ok, hrun2, Sem.run_pure]
theorem O9 {ρ : af} {h h' : aL} {w : World} (H : az env w0 ρ h w) {fn : Func} {sl : List SV} {tmps : Array Value} (hs : SV.aD env ρ sl tmps.toList) {r : SV}
    (he : (P1 P fn sl).bx env h r h') : h = h' /\ ∃ v, r.Rel env ρ v /\ (results fn tmps).run P w = .ok v w := by
 simp only [P1, run_bind] at he; obtain ⟨l, h1, hl, he⟩ := he; obtain ⟨rfl, vs, hvs, hrun⟩ := Ka H hs _ hl
 have hres : (results fn tmps).run P w = .ok (if hh : vs.toArray.size = 1 then vs.toArray[0] else .tuple vs.toArray) w := by
  have e : results fn tmps = (do let vs <- fn.results.mapM (X9 tmps); pure (if h : vs.size = 1 then vs[0] else .tuple vs)) := rfl
  rw [e, Array.mapM_eq_mapM_toList]; simp only [Sem.run_bind, Sem.run_map, hrun, Result.andThen_ok, Sem.run_pure]
 split at he
 ·rename_i v; simp only [run_pure] at he; obtain ⟨rfl, rfl⟩ := he; simp only [SV.aD] at hvs; obtain ⟨u, _, rfl, hu, rfl⟩ := hvs; exact ⟨rfl, u, hu, by rw [hres]; simp⟩
 ·rename_i hne; simp only [run_pure] at he; obtain ⟨rfl, rfl⟩ := he; refine ⟨rfl, .tuple vs.toArray, ⟨vs, rfl, hvs⟩, ?_⟩; rw [hres, dif_neg]; intro hc; have : vs.length = 1 := by simpa using hc
  have hl1 : l.length = 1 := by rw [<- hvs.length]; exact this
  match l, hl1 with
  | [v], _ => exact hne v rfl
end
section
variable {P : Program} {env : Env} {w0 : Anchor} {X : Ext}
theorem az.cI {ρ : af} {h : aL} {w : World} (H : az env w0 ρ h w) {L : List Nat} (hL : ∀ m ∈ L, ρ m = none) (hA : ∀ T ks e, ay h (dI T) = some (.ar T ks e) -> dI T ∉ L) : az env w0 ρ (Sx.cI h L) w := by
 have sub : ∀ n o, ay (Sx.cI h L) n = some o -> o.owner = true -> ay h n = some o := fun n o hn ho => by
  have hn' : (if n ∈ L then some aA.dP else h n) = some o := hn
  by_cases e : n ∈ L
  ·rw [if_pos e] at hn'; injection hn' with hn'; subst hn'; cases ho
  ·rw [if_neg e] at hn'; exact hn'
 have habs : lA env w0 ρ (Sx.cI h L) w := by
  refine H.ar.cU (Fz.le_refl _) rfl (fun m T ks e hm => ?_) (fun T ks e hm => ⟨ks, e, ?_⟩) (fun _ _ _ _ _ _ _ _ => rfl) (Nat.le_refl _) (fun _ h => h) rfl (fun m x q' hm hx hq' => .inl ⟨m, x, q', sub m x hm hx, hx, hq', rfl⟩) (fun _ _ _ _ _ _ _ _ h => h)
  ·have hm' : (if m ∈ L then some aA.dP else h m) = some (.ar T ks e) := hm
   by_cases e : m ∈ L
   ·rw [if_pos e] at hm'; cases hm'
   ·rw [if_neg e] at hm'; exact hm'
  ·show (if dI T ∈ L then some aA.dP else h (dI T)) = _
   rw [if_neg (hA T ks e hm)]; exact hm
 refine ⟨H.below, fun n o hn => ?_, fun m n o o' p q hm hn ho ho' hp hq he => ?_, habs, H.fz.cU rfl (fun _ _ _ h => h) (fun m x q' hm hx hq' => .inl ⟨m, x, q', sub m x hm hx, hx, hq', rfl⟩)⟩
 ·have hn' : (if n ∈ L then some aA.dP else h n) = some o := hn
  by_cases e : n ∈ L
  ·rw [if_pos e] at hn'; injection hn' with hn'; subst hn'; exact hL n e
  ·rw [if_neg e] at hn'; exact H.bk n o hn'
 ·have hm' : (if m ∈ L then some aA.dP else h m) = some o := hm
  have hn' : (if n ∈ L then some aA.dP else h n) = some o' := hn
  by_cases e : m ∈ L
  ·rw [if_pos e] at hm'; injection hm' with hm'; subst hm'; cases ho
  ·by_cases e2 : n ∈ L
   ·rw [if_pos e2] at hn'; injection hn' with hn'; subst hn'; cases ho'
   ·rw [if_neg e] at hm'; rw [if_neg e2] at hn'; exact H.inj m n o o' p q hm' hn' ho ho' hp hq he
theorem az.sub {ρ : af} {h h' : aL} {w : World} (H : az env w0 ρ h w) (hs : ∀ n o, ay h' n = some o -> ay h n = some o) (ha : ∀ T ks e, ay h (dI T) = some (.ar T ks e) -> ay h' (dI T) = some (.ar T ks e)) : az env w0 ρ h' w :=
 ⟨H.below, fun n o hn => H.bk n o (hs n o hn), fun m n o o' p q hm hn => H.inj m n o o' p q (hs m o hm) (hs n o' hn), by
  exact H.ar.cU (Fz.le_refl _) rfl (fun m k st refs hm => hs m _ hm) (fun T ks e h => ⟨ks, e, ha T ks e h⟩) (fun _ _ _ _ _ _ _ _ => rfl) (Nat.le_refl _) (fun _ h => h) rfl (fun m x q' hm hx hq' => .inl ⟨m, x, q', hs m x hm, hx, hq', rfl⟩) (fun _ _ _ _ _ _ _ _ h => h), H.fz.cU rfl (fun _ _ _ h => h) (fun m x q' hm hx hq' => .inl ⟨m, x, q', hs m x hm, hx, hq', rfl⟩)⟩
theorem Cb {h : aL} {D : List Nat} : ∀ n o, ay (eb h D) n = some o -> ay h n = some o := fun n o hn => by
 have hn' : (if n ∈ D then none else h n) = some o := hn
 split at hn'
 ·cases hn'
 ·exact hn'
theorem yT {h : aL} {D : List Nat} {n : Nat} {o : aA} (hn : ay h n = some o) (hd : n ∉ D) : ay (eb h D) n = some o := by
 show (if n ∈ D then none else h n) = some o
 rw [if_neg hd]; exact hn
theorem xI {ρ : af} : ∀ n, SV.aD env ρ (p5 n bH) (List.replicate n undef)
 | 0 => rfl
 | n + 1 => by simp only [p5, List.replicate_succ]; exact ⟨undef, _, rfl, pQ, xI n⟩
theorem eZ.nil_eq {ρ : af} {d : List Deferred} (h : eZ env ρ [] d) : d = [] := by cases h; rfl
theorem Ev.sound (hP : Plain P) (hM : P.follows .mixedOrders = true) (hX : eJ P env w0 X) {j : KD} (he : Ev P env X j) : Sound P env w0 j := by
 induction he with
 | @A8 ops base i fr h nx o ho hw =>
   refine ⟨o, bH, ho, rfl, fun _ => ⟨rfl, rfl⟩, Nat.le_refl _, fun sl2 df2 t nx2 h1 h2 h3 h4 ρ a w K Q hs hK => ?_⟩; have hwant : Region.wanted o (yielded ops a.tmps) = false := xv hs.sl (by rw [eO h1]; exact hw)
   unfold wpOp; simp only [ho, hwant, Bool.false_eq_true, if_false]; refine hK ρ _ w (af.le_refl ρ) ⟨?_, kB hs.sl pQ, by rw [put_defers]; exact hs.df, hs.nx⟩
   exact hs.hs.ext (fun k => by simp [mv, aG.nil, ay])
 | Gz ho hw he => exact E9 hP ho hw he (fun _ => rfl) (fun ρ n ho => by obtain ⟨v, rfl, hv⟩ := ho; exact ⟨v, hv, .inl ⟨rfl, rfl⟩⟩)
 | Ac ho hw he => exact E9 hP ho hw he (fun _ => rfl) (fun ρ n ho => by obtain rfl := ho; exact ⟨undef, pQ, .inr (.inl ⟨rfl, rfl, rfl⟩)⟩)
 | vj ho hw he =>
   exact E9 hP ho hw he (fun h => by cases h) (fun ρ n ho => by
    obtain ⟨cs, vs, rfl, h1, h2⟩ := ho
    exact ⟨undef, pQ, .inr (.inr ⟨_, _, _, rfl, rfl, rfl, rfl, fun ds r hr => .cons (h2.append h1) hr⟩)⟩)
 | @Bh ops base i fr h nx o f args h1 F1 r h' nx' F2 ho hw hp hf ih =>
   obtain ⟨hle, hcall⟩ := ih; have hkf := (hf.loc).1; refine ⟨o, r, ho, rfl, fun h => (by cases h), hle, fun sl2 df2 t nx2 a1 a2 a3 a4 ρ a w K Q hs hK => ?_⟩
   obtain ⟨rfl, rfl⟩ := a3 rfl; obtain ⟨k, hl⟩ := eD hp; obtain ⟨t', g1, g2⟩ := hl t (fun n hn => a2 n (by simp [aG.add, hn]))
   have hrun : (lb P (base + i) (ff sl2) o.op).bx env t (.call f args) t' := by
    have := g1.run; rw [<- ka (mC a1)] at this; exact this
   obtain ⟨n, w', ρ', r1, r2, r3, r4, vs, rfl, hvs⟩ := MF hP hs.hs hs.sl (o := o) hrun; have hwant : Region.wanted o (yielded ops a.tmps) = true := xv hs.sl (by rw [eO a1]; exact hw)
   have hnx : ∀ m p, ρ' m = some p -> m < nx2 := by
    intro m p hm; cases hρ : ρ m with
    | some q => exact hs.nx m q hρ
    | none =>
      rcases r3 m hρ with e | e
      ·rw [e] at hm; cases hm
      ·omega
   obtain ⟨hc, _⟩ := hcall t' (g2.reads k a2) ρ' w' vs r4 hnx hvs; unfold wpOp; simp only [ho, hwant, if_true]; refine .inl ?_; unfold Oper.wp; rw [r1, Oper.upon_enter]; refine hc.mono fun e w'' hpost => ?_; obtain ⟨ρ'', v, rfl, b1, b2, b3, b4⟩ := hpost; have hl2 := af.le_trans r2 b1; refine hK ρ'' _ w'' hl2 ⟨?_, kB (hs.sl.mono hl2) b4, ?_, ?_⟩
   ·rw [Ck g2] at b2; rw [o9 hkf] at b2; exact b2
   ·rw [put_defers]; simp only [if_true]; exact hs.df.mono hl2
   ·simp only [if_true]; exact b3
 | skip => exact ⟨Nat.le_refl _, fun t ht ρ a w Q hs hq => wp_skip (hq ρ a w (af.le_refl ρ) ⟨hs.hs.ext (fun k => by simp [mv, aG.nil, ay]), hs.sl, hs.df, hs.nx⟩)⟩
 | label => exact ⟨Nat.le_refl _, fun t ht ρ a w Q hs hq => wp_label (hq ρ a w (af.le_refl ρ) ⟨hs.hs.ext (fun k => by simp [mv, aG.nil, ay]), hs.sl, hs.df, hs.nx⟩)⟩
 | ret => exact ⟨Nat.le_refl _, fun t ht ρ a w Q hs hq => wp_ret (hq ρ a w (af.le_refl ρ) ⟨hs.hs.ext (fun k => by simp [mv, aG.nil, ay]), hs.sl, hs.df, hs.nx⟩)⟩
 | exit => exact ⟨Nat.le_refl _, fun t ht ρ a w Q hs hq => wp_exit (hq ρ a w (af.le_refl ρ) ⟨hs.hs.ext (fun k => by simp [mv, aG.nil, ay]), hs.sl, hs.df, hs.nx⟩)⟩
 | Qg h1 h2 ih1 ih2 =>
   obtain ⟨l1, s1⟩ := ih1; obtain ⟨l2, s2⟩ := ih2; have k1 := (h1.loc).1; have k2 := (h2.loc).1; refine ⟨Nat.le_trans l1 l2, fun t ht ρ a w Q hs hq => wp_seq (s1 t (fun n hn => ht n (by simp [aG.add, hn])) ρ a w _ hs fun ρ' a' w' hl hs' => ?_)⟩
   refine s2 _ ((kQ t _ _).reads k1 ht) ρ' a' w' Q hs' fun ρ'' a'' w'' hl2 hs'' => ?_; rw [o9 k2] at hs''; exact hq ρ'' a'' w'' (af.le_trans hl hl2) hs''
 | @PV a b fr h nx fr1 h1 nx1 F1 ex hne h1' ih1 =>
   obtain ⟨l1, s1⟩ := ih1; refine ⟨l1, fun t ht ρ a w Q hs hq => wp_seq (s1 t ht ρ a w _ hs fun ρ' a' w' hl hs' => ?_)⟩; cases ex with
   | normal => exact absurd rfl hne
   | exit n => exact hq ρ' a' w' hl hs'
   | ret => exact hq ρ' a' w' hl hs'
 | @cond c a b fr h nx e ex fr1 h1 nx1 F1 hc h1' ih1 =>
   obtain ⟨l1, s1⟩ := ih1; refine ⟨l1, fun t ht ρ ac w Q hs hq => ?_⟩; have hv := wj (a := ac) hs.sl hc; simp only [SV.Rel] at hv; exact wp_cond hv (s1 t ht ρ ac w Q hs hq)
 | @zZ id a fr h nx fr1 h1 nx1 F1 h1' ih1 =>
   obtain ⟨l1, s1⟩ := ih1; refine ⟨l1, fun t ht ρ ac w Q hs hq => wp_block (s1 t ht ρ ac w _ hs fun ρ' a' w' hl hs' => ?_)⟩; show (if id = id then Q .normal a' w' else Q (.exit id) a' w')
   rw [if_pos rfl]; exact hq ρ' a' w' hl hs'
 | @block id a fr h nx ex fr1 h1 nx1 F1 hne h1' ih1 =>
   obtain ⟨l1, s1⟩ := ih1; refine ⟨l1, fun t ht ρ ac w Q hs hq => wp_block (s1 t ht ρ ac w _ hs fun ρ' a' w' hl hs' => ?_)⟩; cases ex with
   | normal => exact hq ρ' a' w' hl hs'
   | exit n =>
     show (if n = id then Q .normal a' w' else Q (.exit n) a' w')
     rw [if_neg (fun e => hne (by rw [e]))]
     exact hq ρ' a' w' hl hs'
   | ret => exact hq ρ' a' w' hl hs'
 | loop h1 ih1 =>
   obtain ⟨l1, k, s1⟩ := ih1; exact ⟨l1, fun t ht ρ a w Q hs hq => wp_loop_rounds k (s1 t ht ρ a w Q hs hq)⟩
 | Ha h1 h2 ih1 ih2 =>
   obtain ⟨l1, s1⟩ := ih1; obtain ⟨l2, k, s2⟩ := ih2; have k1 := (h1.loc).1; have k2 := (h2.loc).1; refine ⟨Nat.le_trans l1 l2, k + 1, fun t ht ρ a w Q hs hq => ?_⟩; rw [rounds_succ]; refine s1 t (fun n hn => ht n (by simp [aG.add, hn])) ρ a w _ hs fun ρ' a' w' hl hs' => ?_
   refine s2 _ ((kQ t _ _).reads k1 ht) ρ' a' w' Q hs' fun ρ'' a'' w'' hl2 hs'' => ?_; rw [o9 k2] at hs''; exact hq ρ'' a'' w'' (af.le_trans hl hl2) hs''
 | @Hv c fr h nx ex fr1 h1 nx1 F1 hne h1' ih1 =>
   obtain ⟨l1, s1⟩ := ih1; refine ⟨l1, 1, fun t ht ρ ac w Q hs hq => ?_⟩; rw [rounds_succ]; refine s1 t ht ρ ac w _ hs fun ρ' a' w' hl hs' => ?_; cases ex with
   | normal => exact absurd rfl hne
   | exit n => exact hq ρ' a' w' hl hs'
   | ret => exact hq ρ' a' w' hl hs'
 | @region id ops draw h nx L D S H N F cl hL hmax hDL h0 hN hop hdraw ih =>
   have hkeeps : ∀ i, i < ops.size -> jh (H i) (H (i + 1)) (F i) := fun i hi => ((hop i hi).loc).1
   have upto : ∀ i, i <= ops.size -> ∀ n, (∀ j, j < i -> n ∉ (F j).wr) -> H i n = H 0 n := by
    intro i
    induction i with
    | zero => intro _ n _; rfl
    | succ i ihi =>
      intro hi n hn; rw [hkeeps i (by omega) n (hn i (by omega))]
      exact ihi (by omega) n (fun j hj => hn j (by omega))
   have sumwr : ∀ n, n ∈ (aG.sum F ops.size).wr ↔ ∃ j, j < ops.size /\ n ∈ (F j).wr := fun n => by simp [aG.sum]
   have sumrd : ∀ n, n ∈ (aG.sum F ops.size).rd ↔ ∃ j, j < ops.size /\ n ∈ (F j).rd := fun n => by simp [aG.sum]
   have mono : ∀ i, i <= ops.size -> N 0 <= N i := by
    intro i
    induction i with
    | zero => intro _; exact Nat.le_refl _
    | succ i ihi =>
      intro hi; obtain ⟨o, x, _, _, _, hle, _⟩ := ih i (by omega)
      exact Nat.le_trans (ihi (by omega)) hle
   refine ⟨by have := mono ops.size (Nat.le_refl _); omega, fun t ht ρ a w Q hs hq => ?_⟩
   let H' : Nat -> aL := fun i n => if ∃ j, j < i /\ n ∈ (F j).wr then H i n else cI t L n
   have hH'0 : H' 0 = cI t L := by funext n; simp [H']
   have hC : fH P env w0 ops nx S H' N F cl := by
    refine ⟨fun i hi => ?_, fun i hi => ?_, by omega⟩
    ·obtain ⟨o, x, ho, hsl, hcl, hle, hokk⟩ := ih i hi; refine ⟨o, x, ho, hsl, hcl, hle, fun sl2 df2 t2 nx2 b1 b2 b3 b4 ρ2 a2 w2 K2 Q2 hs2 hK2 => ?_⟩
     have hrd : ∀ n ∈ (F i).rd, H' i n = H i n := by
      intro n hn; simp only [H']; split
      ·rfl
      ·rename_i hno; rw [upto i (by omega) n (fun j hj hw => hno ⟨j, hj, hw⟩), h0]
       unfold cI
       by_cases hnL : n ∈ L
       ·simp [hnL]
       ·rw [if_neg hnL, if_neg hnL]; exact ht n ((List.mem_append.2 (.inl ((sumrd n).2 ⟨i, hi, hn⟩)) : n ∈ (aG.sum F ops.size).rd ++ []) |> (by simpa using ·))
     refine hokk sl2 df2 t2 nx2 b1 (fun n hn => by rw [b2 n hn, hrd n hn]) b3 b4 ρ2 a2 w2 K2 Q2 hs2 (fun ρ' a' w' hl hs' => hK2 ρ' a' w' hl ?_)
     have e : mv t2 (H (i + 1)) (F i) = mv t2 (H' (i + 1)) (F i) := by
      funext n
      unfold mv
      by_cases h1 : n ∈ (F i).wr
      ·rw [if_pos h1, if_pos h1]; simp only [H']; rw [if_pos ⟨i, by omega, h1⟩]
      ·rw [if_neg h1, if_neg h1]
     rw [e] at hs'; exact hs'
    ·intro n hn; simp only [H']
     by_cases h2 : ∃ j, j < i /\ n ∈ (F j).wr
     ·obtain ⟨j, hj, hw⟩ := h2; rw [if_pos ⟨j, by omega, hw⟩, if_pos ⟨j, hj, hw⟩, hkeeps i hi n hn]
     ·rw [if_neg (fun ⟨j, hj, hw⟩ => by
        by_cases hji : j = i
        ·subst hji; exact hn hw
        ·exact h2 ⟨j, by omega, hw⟩), if_neg h2]
   have hend : eb (H' ops.size) D = mv t (eb (H ops.size) D) ⟨(aG.sum F ops.size).rd, (aG.sum F ops.size).wr ++ L⟩ := by
    funext n
    unfold mv eb; simp only [List.mem_append, sumwr]
    by_cases hd : n ∈ D
    ·have hnl := hDL n hd; simp only [hd, if_true, hnl, or_true]
    ·simp only [hd, if_false]
     by_cases h1 : ∃ j, j < ops.size /\ n ∈ (F j).wr
     ·simp only [h1, true_or, if_true]; simp only [H', h1, if_true]
     ·simp only [h1, false_or]
      by_cases h2 : n ∈ L
      ·simp only [h2, if_true]
       have e1 : H ops.size n = some .dP := by
        rw [upto ops.size (Nat.le_refl _) n (fun j hj hw => h1 ⟨j, hj, hw⟩), h0]; unfold cI; simp [h2]
       simp only [H', h1, if_false, cI, h2, if_true, e1]
      ·simp only [h2, if_false]; simp only [H', h1, if_false, cI, h2]
   have hq' : ∀ ρ' a' w', ρ.le ρ' -> Sat env w0 ρ' (S ops.size) (H' ops.size) (N ops.size) a' w' -> Q .normal a' w' := fun ρ' a' w' hl hs' =>
    hq ρ' a' w' hl ⟨by rw [<- hend]; exact hs'.hs.sub Cb (fun T ks e hT => yT hT fun hm => by have := (hL _ (hDL _ hm)).2; unfold dI at this; omega), hs'.sl, hs'.df, hs'.nx⟩
   have hstart : ∀ w2 : World, w2.heap = w.heap -> w2.os = w.os -> w2.tape = w.tape -> w2.output = w.output -> Sat env w0 ρ (S 0) (H' 0) (N 0) a w2 := fun w2 c1 c2 c3 c4 =>
    ⟨by rw [hH'0]; exact (hs.hs.drawn c1 c2 c3 c4).cI (fun m hm => by
        cases hρ : ρ m with
        | none => rfl
        | some p => have := hs.nx m p hρ; have := hL m hm; omega) (fun T ks e _ hm => by have := (hL _ hm).2; unfold dI at this; omega), hs.sl, hs.df, fun n p hn => by have := hs.nx n p hn; omega⟩
   cases hd : draw with
   | false =>
     refine wp_region ?_; rw [List.range_eq_range']; exact hC.Iu ops.size 0 (by omega) ρ a w (hstart w rfl rfl rfl rfl) hq'
   | true =>
     refine wp_region_any hM ?_; have hnone := hC.none (E := fun j => (Array.replicate ops.size false).getD j false) (fun k hk => by simp [hk])
     refine hC.Md (hdraw hd) ops.size (Array.replicate ops.size false) (by simp) ?_ ?_ ρ a _ ?_ hq'
     ·unfold qH; have : ∀ j ∈ List.range ops.size, (!(Array.replicate ops.size false).getD j false) = true := fun j hj => by simp [List.mem_range.1 hj]
      rw [List.countP_eq_length.2 this, List.length_range]
     ·intro j o hj hE; have hjn : j < ops.size := (Array.getElem?_eq_some_iff.1 hj).1; simp [hjn] at hE
     ·rw [hnone.1, hnone.2.1, hnone.2.2]; exact hstart _ rfl rfl rfl rfl
 | QP =>
   refine ⟨Nat.le_refl _, fun t ht ρ w ds' fn tmps R hs hnx hd hq => ?_⟩; rw [hd.nil_eq]; exact hq ρ w (af.le_refl ρ) (hs.ext (fun k => by simp [mv, aG.nil, ay])) hnx
 | @RY f args ds h nx r h1 nx1 F1 h2 nx2 F2 hf1 hd1 ih1 ih2 =>
   obtain ⟨l1, s1⟩ := ih1; obtain ⟨l2, s2⟩ := ih2; have k1 := (hf1.loc).1; have k2 := (hd1.loc).1; refine ⟨Nat.le_trans l1 l2, fun t ht ρ w ds' fn tmps R hs hnx hd hq => ?_⟩; cases hd with
   | @cons q l cs vs _ rr hrel hrest =>
     obtain ⟨_, hcd⟩ := s1 t (fun n hn => ht n (by simp [aG.add, hn])) ρ w (vs ++ cs) hs hnx hrel
     have hinv : (invoke (.fn (.func f) cs.toArray) vs.toArray).run P w = .ok (.enter f (vs ++ cs).toArray) w := by
      cases hf1 with
      | fn hff hbb =>
        have e : vs.toArray ++ cs.toArray = (vs ++ cs).toArray := by apply Array.ext'; simp
        have hname := hP f _ hff (by rw [hbb]; rfl)
        have hnone := congrArg Option.isNone hbb; simp only [Option.isNone_some] at hnone; simp only [invoke, callFunc, Sem.run_bind, run_program, Result.andThen_ok, hff, hname, Bool.false_eq_true, if_false, hnone, Sem.run_pure, e]
     refine leaves_cons (by simp) hinv ((hcd rfl .returning).mono fun e u' w' hp => ?_)
     obtain ⟨rfl, ρ', v, rfl, b1, b2, b3, b4⟩ := hp; show Leaves P fn tmps R rr .returning w'; refine s2 _ ((kQ t _ _).reads k1 ht) ρ' w' rr fn tmps R b2 b3 (hrest.mono b1) fun ρ'' w'' c1 c2 c3 => ?_; rw [o9 k2] at c2; exact hq ρ'' w'' (af.le_trans b1 c1) c2 c3
 | @fn dfr f args h nx fn c ex fr1 h1 nx1 F1 h2 nx2 F2 r F3 D F hf hb hn hcode hex hdf hdefs hres hF3 hD hD5 hF ih1 ih2 =>
   obtain ⟨l1, s1⟩ := ih1; obtain ⟨l2, s2⟩ := ih2; have k1 := (hcode.loc).1; have k2 := (hdefs.loc).1; refine ⟨Nat.le_trans l1 l2, fun t ht ρ w vs hs hnx hvs => ?_⟩; have ht : ∀ n ∈ ((F1.add F2).add F3).rd, t n = h n := fun n hn => ht n (hF.1 n hn); have hD : ∀ m ∈ D, m ∈ ((F1.add F2).add F3).wr := fun m hm => (hF.2 m).1 (hD m hm)
   rw [show mv t (eb h2 D) F = mv t (eb h2 D) ((F1.add F2).add F3) from by
    funext n; unfold mv
    by_cases hw : n ∈ F.wr
    ·rw [if_pos hw, if_pos ((hF.2 n).1 hw)]
    ·rw [if_neg hw, if_neg (fun h => hw ((hF.2 n).2 h))]]
   have hstart : Sat env w0 ρ ⟨args ++ p5 (fn.ntmps - args.length) bH, []⟩ t nx { tmps := vs.toArray ++ Array.replicate (fn.ntmps - vs.toArray.size) undef, defers := [] } w := by
    refine ⟨hs, ?_, .nil, hnx⟩
    have e : (vs.toArray ++ Array.replicate (fn.ntmps - vs.toArray.size) undef).toList = vs ++ List.replicate (fn.ntmps - args.length) undef := by
     have := hvs.length; simp [this]
    show SV.aD env ρ _ _; rw [e]; exact hvs.append (xI _)
   have ht1 : ∀ n ∈ F1.rd, t n = h n := fun n hn => ht n (by simp [aG.add, hn])
   have ht12 : ∀ n ∈ (F1.add F2).rd, t n = h n := fun n hn => ht n (by simp only [aG.add, List.mem_append] at hn ⊢; exact .inl hn)
   have e3 : ∀ (b : aL), mv t h2 (F1.add F2) = mv t h2 ((F1.add F2).add F3) := fun _ => by funext n; unfold mv; simp [aG.add, hF3]
   have e4 : mv t (eb h2 D) ((F1.add F2).add F3) = eb (mv t h2 ((F1.add F2).add F3)) D := by
    funext n
    unfold mv eb
    by_cases hd : n ∈ D
    ·rw [if_pos (hD n hd), if_pos hd, if_pos hd]
    ·rw [if_neg hd, if_neg hd]
   have fin : ∀ ρ' (a' : Act) w', ρ.le ρ' -> SV.aD env ρ' fr1.sl a'.tmps.toList -> az env w0 ρ' (mv t h2 (F1.add F2)) w' -> (∀ n p, ρ' n = some p -> n < nx2) ->
       ∃ v, (results fn a'.tmps).run P w' = .ok v w' /\ IN env w0 ρ r (mv t (eb h2 D) ((F1.add F2).add F3)) nx2 (.returned v) w' := by
    intro ρ' a' w' hl hsl hh hnx'; obtain ⟨_, hl3⟩ := eD hres; obtain ⟨t3, g1, g2⟩ := hl3 (mv t h2 (F1.add F2)) (((kQ t h2 (F1.add F2))).reads (k1.trans k2) ht); obtain ⟨_, v, hv, hrun⟩ := O9 hh hsl g1.run; exact ⟨v, hrun, ρ', v, rfl, hl, by rw [e4]; exact (show az env w0 ρ' (mv t h2 ((F1.add F2).add F3)) w' from e3 h2 ▸ hh).sub Cb (fun T ks e hT => yT hT fun hm => by have := hD5 _ hm; unfold dI at this; omega), hnx', hv⟩
   refine ⟨calls_of_wp_defers hf hb (s1 t ht1 ρ _ w _ hstart fun ρ' a' w' hl hs' => ?_), fun hd u => callsD_of_wp hf hb (s1 t ht1 ρ _ w _ hstart fun ρ' a' w' hl hs' => ?_)⟩
   ·have hleaves : Leaves P fn a'.tmps (IN env w0 ρ r (mv t (eb h2 D) ((F1.add F2).add F3)) nx2) a'.defers .returning w' := by
      refine s2 _ ((kQ t _ _).reads k1 ht12) ρ' w' a'.defers fn a'.tmps _ hs'.hs hs'.nx hs'.df fun ρ'' w'' c1 c2 c3 => ?_; rw [o9 k2] at c2; exact fin ρ'' a' w'' (af.le_trans hl c1) (hs'.sl.mono c1) c2 c3
    rcases hex with e | e <;> (subst e; exact hleaves)
   ·have hdf0 := hdf hd; rw [hdf0] at hdefs; have hdd : a'.defers = [] := by have := hs'.df; rw [hdf0] at this; exact this.nil_eq
    cases hdefs; have e1 : mv t h1 F1 = mv t h1 (F1.add aG.nil) := by funext n; unfold mv; simp [aG.add, aG.nil]
    have hh := hs'.hs; rw [e1] at hh; have hfin := fin ρ' a' w' hl hs'.sl hh hs'.nx; rcases hex with e | e <;> (subst e; exact ⟨hdd, hfin⟩)
 | @ext f args h nx p r h' nx' F hx he =>
   obtain ⟨l, _⟩ := hX.fn _ _ _ _ _ _ _ _ hx he.run; refine ⟨l, fun t ht ρ w vs hs hnx hvs => ⟨?_, fun h => by cases h⟩⟩
   obtain ⟨_, hl⟩ := eD he; obtain ⟨t', g1, g2⟩ := hl t ht; have e := Ck (t := t) (t' := t') (h' := h') (F := F) g2; subst e; exact (hX.fn _ _ _ _ _ _ _ _ hx g1.run).2 ρ w vs hs hnx hvs
 | @R2 c fr h nx p ex fr' h' nx' F hx he =>
   obtain ⟨l, _⟩ := hX.lp _ _ _ _ _ _ _ _ _ hx he.run; refine ⟨l, fun t ht ρ a w Q hs hq => ?_⟩; obtain ⟨_, hl⟩ := eD he; obtain ⟨t', g1, g2⟩ := hl t ht; have e := Ck (t := t) (t' := t') (h' := h') (F := F) g2; subst e; exact (hX.lp _ _ _ _ _ _ _ _ _ hx g1.run).2 ρ a w Q hs hq
end
end Go.Sx
