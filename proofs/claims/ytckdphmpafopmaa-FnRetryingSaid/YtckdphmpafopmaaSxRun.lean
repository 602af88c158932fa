/-
  SX, PART 6: code, regions, calls: what a run is, over symbolic states.
-/
import Derived.Test.YtckdphmpafopmaaSxOpOkG
import Derived.Orders
import Derived.LoopN
namespace Go.Sx
open Go.RowKit
set_option linter.unusedVariables false
set_option linter.unusedSimpArgs false

structure Fr where
  sl : List SV
  df : List (FuncId × List SV)

inductive SExit where
  | normal
  | exit (n : Nat)
  | ret
  deriving Repr
def SExit.den : SExit → Exit
  | .normal => .normal
  | .exit n => .exit n
  | .ret => .ret

/-- Is an operation wanted? By its guard's slot. -/
def swant (env : Env) (ops : Array Oper) (sl : List SV) (o : Oper) : Option Bool :=
  match o.guard with
  | none => some true
  | some (j, want) =>
    match (ops[j]?).bind (·.dst) with
    | none => none
    | some d =>
      match sl[d]? with
      | some (.bool e) => some ((e.den env).B == want)
      | some (.tup []) => some false
      | _ => none

def putS (sl : List SV) (dst : Option Tmp) (v : SV) : List SV :=
  match dst with
  | some d => sl.set d v
  | none => sl

def reserve (h : Heap) (L : List Nat) : Heap := fun n => if n ∈ L then some .resv else h n
def isResv : Option SObj → Bool
  | some .resv => true
  | _ => false
def dropL (h : Heap) (D : List Nat) : Heap := fun n => if n ∈ D then none else h n

def resOne (P : Program) (sl : List SV) : ResultVar → Prog SV
  | .tmp t => .ret (sl[t]?.getD sundef)
  | .cell a t => loadS P t (sl[a]?.getD sundef)
def resAll (P : Program) (sl : List SV) : List ResultVar → Prog (List SV)
  | [] => .ret []
  | x :: r => do
    let v ← resOne P sl x
    let l ← resAll P sl r
    return v :: l
def resS (P : Program) (fn : Func) (sl : List SV) : Prog SV := do
  let l ← resAll P sl fn.results.toList
  match l with
  | [v] => return v
  | l => return .tup l

def Foot.nil : Foot := ⟨[], []⟩
def Foot.add (a b : Foot) : Foot := ⟨a.rd ++ b.rd, a.wr ++ b.wr⟩
def Foot.sum (F : Nat → Foot) (n : Nat) : Foot := ⟨(List.range n).flatMap fun i => (F i).rd, (List.range n).flatMap fun i => (F i).wr⟩

/-! ### orders -/
def maskOf (acc : List Nat) (o : Oper) : Nat :=
  o.after.toList.foldl (fun s e => cond (Region.binds .any e) (s ||| (2 ^ e.on ||| acc.getD e.on 0)) s) 0
def masksFrom : List Oper → List Nat → List Nat
  | [], acc => acc
  | o :: r, acc => masksFrom r (acc ++ [maskOf acc o])
def masks (ops : Array Oper) : List Nat := masksFrom ops.toList []
def back (ops : Array Oper) : Bool := ops.toList.zipIdx.all fun (o, j) => o.after.toList.all fun e => !Region.binds .any e || Nat.blt e.on j
def inL (n : Nat) (l : List Nat) : Bool := l.any (Nat.beq n)
def apartL (a b : List Nat) : Bool := a.all fun n => !inL n b
def clash (ops : Array Oper) (oi oj : Oper) (Fi Fj : Foot) (ci cj : Bool) : Bool :=
  !(oi.apart ops oj) || !(apartL Fi.wr Fj.rd) || !(apartL Fi.wr Fj.wr) || !(apartL Fi.rd Fj.wr) || (ci && cj)
def okPair (ops : Array Oper) (ms : List Nat) (F : Nat → Foot) (cl : Nat → Bool) (i j : Nat) : Bool :=
  match ops[i]?, ops[j]? with
  | some oi, some oj => cond (Nat.testBit (ms.getD j 0) i) true (!(clash ops oi oj (F i) (F j) (cl i) (cl j)))
  | _, _ => true
def okDraw (ops : Array Oper) (F : Nat → Foot) (cl : Nat → Bool) : Bool :=
  back ops && Region.noSelect ops && (List.range ops.size).all fun j => (List.range j).all fun i => okPair ops (masks ops) F cl i j

inductive Judg : Type where
  | op (ops : Array Oper) (base i : Nat) (fr : Fr) (h : Heap) (nx : Nat) (fr' : Fr) (h' : Heap) (nx' : Nat) (cl : Bool) (F : Foot)
  | code (c : Code) (fr : Fr) (h : Heap) (nx : Nat) (ex : SExit) (fr' : Fr) (h' : Heap) (nx' : Nat) (F : Foot)
  | loop (c : Code) (fr : Fr) (h : Heap) (nx : Nat) (ex : SExit) (fr' : Fr) (h' : Heap) (nx' : Nat) (F : Foot)
  | defs (ds : List (FuncId × List SV)) (h : Heap) (nx : Nat) (h' : Heap) (nx' : Nat) (F : Foot)
  | fn (dfr : Bool) (f : FuncId) (args : List SV) (h : Heap) (nx : Nat) (r : SV) (h' : Heap) (nx' : Nat) (F : Foot)

/-- Contracts of functions and of loops that are not entered: small programs that sum them up. -/
structure Ext where
  fn : FuncId → List SV → Nat → Prog (SV × Nat) → Prop
  lp : Code → Fr → Nat → Prog (SExit × Fr × Nat) → Prop

def Foot.Like (F G : Foot) : Prop := (∀ n ∈ F.rd, n ∈ G.rd) ∧ (∀ n, n ∈ G.wr ↔ n ∈ F.wr)

inductive Ev (P : Program) (env : Env) (X : Ext) : Judg → Prop where
  | opSkip {ops base i fr h nx o} : ops[i]? = some o → swant env ops fr.sl o = some false →
      Ev P env X (.op ops base i fr h nx ⟨putS fr.sl o.dst sundef, fr.df⟩ h nx false Foot.nil)
  | opVal {ops base i fr h nx o v h' F} : ops[i]? = some o → swant env ops fr.sl o = some true → (opS P (base + i) (evalS fr.sl) o.op).Ev env h (.val v) h' Foot.nil F →
      Ev P env X (.op ops base i fr h nx ⟨putS fr.sl o.dst v, fr.df⟩ h' nx false F)
  | opNone {ops base i fr h nx o h' F} : ops[i]? = some o → swant env ops fr.sl o = some true → (opS P (base + i) (evalS fr.sl) o.op).Ev env h .skip h' Foot.nil F →
      Ev P env X (.op ops base i fr h nx ⟨putS fr.sl o.dst sundef, fr.df⟩ h' nx false F)
  | opDefer {ops base i fr h nx o q cap args h' F} : ops[i]? = some o → swant env ops fr.sl o = some true → (opS P (base + i) (evalS fr.sl) o.op).Ev env h (.defer (.func q) cap args) h' Foot.nil F →
      Ev P env X (.op ops base i fr h nx ⟨putS fr.sl o.dst sundef, (q, args ++ cap) :: fr.df⟩ h' nx true F)
  | opCall {ops base i fr h nx o f args h1 F1 r h' nx' F2} : ops[i]? = some o → swant env ops fr.sl o = some true → (opS P (base + i) (evalS fr.sl) o.op).Ev env h (.call f args) h1 Foot.nil F1 →
      Ev P env X (.fn false f args h1 nx r h' nx' F2) →
      Ev P env X (.op ops base i fr h nx ⟨putS fr.sl o.dst r, fr.df⟩ h' nx' true (F1.add F2))
  | skip {fr h nx} : Ev P env X (.code .skip fr h nx .normal fr h nx Foot.nil)
  | label {fr h nx l} : Ev P env X (.code (.label l) fr h nx .normal fr h nx Foot.nil)
  | ret {fr h nx} : Ev P env X (.code .ret fr h nx .ret fr h nx Foot.nil)
  | exit {fr h nx id} : Ev P env X (.code (.exit id) fr h nx (.exit id) fr h nx Foot.nil)
  | seqN {a b fr h nx fr1 h1 nx1 F1 ex fr2 h2 nx2 F2} : Ev P env X (.code a fr h nx .normal fr1 h1 nx1 F1) → Ev P env X (.code b fr1 h1 nx1 ex fr2 h2 nx2 F2) →
      Ev P env X (.code (.seq a b) fr h nx ex fr2 h2 nx2 (F1.add F2))
  | seqX {a b fr h nx fr1 h1 nx1 F1 ex} : ex ≠ .normal → Ev P env X (.code a fr h nx ex fr1 h1 nx1 F1) → Ev P env X (.code (.seq a b) fr h nx ex fr1 h1 nx1 F1)
  | cond {c a b fr h nx e ex fr1 h1 nx1 F1} : evalS fr.sl c = some (.bool e) → Ev P env X (.code (if (e.den env).B = true then a else b) fr h nx ex fr1 h1 nx1 F1) →
      Ev P env X (.code (.cond c a b) fr h nx ex fr1 h1 nx1 F1)
  | blockX {id a fr h nx fr1 h1 nx1 F1} : Ev P env X (.code a fr h nx (.exit id) fr1 h1 nx1 F1) → Ev P env X (.code (.block id a) fr h nx .normal fr1 h1 nx1 F1)
  | block {id a fr h nx ex fr1 h1 nx1 F1} : ex ≠ .exit id → Ev P env X (.code a fr h nx ex fr1 h1 nx1 F1) → Ev P env X (.code (.block id a) fr h nx ex fr1 h1 nx1 F1)
  | loop {c fr h nx ex fr1 h1 nx1 F1} : Ev P env X (.loop c fr h nx ex fr1 h1 nx1 F1) → Ev P env X (.code (.loop c) fr h nx ex fr1 h1 nx1 F1)
  | loopN {c fr h nx fr1 h1 nx1 F1 ex fr2 h2 nx2 F2} : Ev P env X (.code c fr h nx .normal fr1 h1 nx1 F1) → Ev P env X (.loop c fr1 h1 nx1 ex fr2 h2 nx2 F2) →
      Ev P env X (.loop c fr h nx ex fr2 h2 nx2 (F1.add F2))
  | loopX {c fr h nx ex fr1 h1 nx1 F1} : ex ≠ .normal → Ev P env X (.code c fr h nx ex fr1 h1 nx1 F1) → Ev P env X (.loop c fr h nx ex fr1 h1 nx1 F1)
  | region {id ops draw h nx L D} (S : Nat → Fr) (H : Nat → Heap) (N : Nat → Nat) (F : Nat → Foot) (cl : Nat → Bool) :
      (∀ m ∈ L, nx ≤ m ∧ m < nx + ops.size) → (∀ m ∈ D, m ∈ L) → H 0 = reserve h L → N 0 = nx + ops.size →
      (∀ i, i < ops.size → Ev P env X (.op ops nx i (S i) (H i) (N i) (S (i + 1)) (H (i + 1)) (N (i + 1)) (cl i) (F i))) →
      (draw = true → okDraw ops F cl = true) →
      Ev P env X (.code (.region id ops draw) (S 0) h nx .normal (S ops.size) (dropL (H ops.size) D) (N ops.size) ⟨(Foot.sum F ops.size).rd, (Foot.sum F ops.size).wr ++ L⟩)
  | defN {h nx} : Ev P env X (.defs [] h nx h nx Foot.nil)
  | defC {f args ds h nx r h1 nx1 F1 h2 nx2 F2} : Ev P env X (.fn true f args h nx r h1 nx1 F1) → Ev P env X (.defs ds h1 nx1 h2 nx2 F2) →
      Ev P env X (.defs ((f, args) :: ds) h nx h2 nx2 (F1.add F2))
  | fn {dfr f args h nx fn c ex fr1 h1 nx1 F1 h2 nx2 F2 r F3 D F} : P.funcs[f]? = some fn → fn.body = some c → args.length ≤ fn.ntmps →
      Ev P env X (.code c ⟨args ++ repl (fn.ntmps - args.length) sundef, []⟩ h nx ex fr1 h1 nx1 F1) → (ex = .normal ∨ ex = .ret) → (dfr = true → fr1.df = []) →
      Ev P env X (.defs fr1.df h1 nx1 h2 nx2 F2) → (resS P fn fr1.sl).Ev env h2 r h2 Foot.nil F3 → F3.wr = [] → (∀ m ∈ D, m ∈ F.wr) →
      ((F1.add F2).add F3).Like F → Ev P env X (.fn dfr f args h nx r (dropL h2 D) nx2 F)
  | ext {f args h nx p r h' nx' F} : X.fn f args nx p → p.Ev env h (r, nx') h' Foot.nil F → Ev P env X (.fn false f args h nx r h' nx' F)
  | extL {c fr h nx p ex fr' h' nx' F} : X.lp c fr nx p → p.Ev env h (ex, fr', nx') h' Foot.nil F → Ev P env X (.code (.loop c) fr h nx ex fr' h' nx' F)

inductive DRel (env : Env) (ρ : PMap) : List (FuncId × List SV) → List Deferred → Prop
  | nil : DRel env ρ [] []
  | cons {q : FuncId} {l : List SV} {cs vs : List Value} {ds : List (FuncId × List SV)} {r : List Deferred} : SV.Rels env ρ l (vs ++ cs) → DRel env ρ ds r →
      DRel env ρ ((q, l) :: ds) ({ target := .fn (.func q) cs.toArray, args := vs.toArray } :: r)
theorem DRel.mono {env : Env} {ρ ρ' : PMap} (h : ρ.le ρ') : ∀ {l : List (FuncId × List SV)} {d : List Deferred}, DRel env ρ l d → DRel env ρ' l d
  | _, _, .nil => .nil
  | _, _, .cons a b => .cons (a.mono h) (b.mono h)

structure Sat (env : Env) (w0 : Anchor) (ρ : PMap) (fr : Fr) (h : Heap) (nx : Nat) (a : Act) (w : World) : Prop where
  hs : HSat env w0 ρ h w
  sl : SV.Rels env ρ fr.sl a.tmps.toList
  df : DRel env ρ fr.df a.defers
  nx : ∀ n p, ρ n = some p → n < nx

/-- What is asked of the contracts that are given from outside. -/
structure ExtOk (P : Program) (env : Env) (w0 : Anchor) (X : Ext) : Prop where
  fn : ∀ f args nx p h r h' nx', X.fn f args nx p → p.Run env h (r, nx') h' → nx ≤ nx' ∧ ∀ ρ w vs, HSat env w0 ρ h w → (∀ n p, ρ n = some p → n < nx) → SV.Rels env ρ args vs →
    Calls P f vs.toArray w fun e w' => ∃ ρ' v, e = .returned v ∧ ρ.le ρ' ∧ HSat env w0 ρ' h' w' ∧ (∀ n p, ρ' n = some p → n < nx') ∧ r.Rel env ρ' v
  lp : ∀ c fr nx p h ex fr' h' nx', X.lp c fr nx p → p.Run env h (ex, fr', nx') h' → nx ≤ nx' ∧ ∀ ρ (a : Act) w (Q : Exit → Act → World → Prop), Sat env w0 ρ fr h nx a w →
    (∀ ρ' (a' : Act) w', ρ.le ρ' → Sat env w0 ρ' fr' h' nx' a' w' → Q ex.den a' w') → (Code.loop c).wp P Q a w

end Go.Sx
