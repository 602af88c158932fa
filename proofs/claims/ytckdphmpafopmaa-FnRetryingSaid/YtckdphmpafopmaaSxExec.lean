/-
  SX, PART 12: the executor: it runs code over symbolic states, in the kernel; what it says is a run.
-/
import Derived.Test.YtckdphmpafopmaaSxMain
namespace Go.Sx
open Go.RowKit
set_option linter.unusedVariables false
set_option linter.unusedSimpArgs false

structure XCtr where
  fn : FuncId → List SV → Nat → Option (Prog (SV × Nat))
  lp : FuncId → Nat → Fr → Nat → Option (Prog (SExit × Fr × Nat))
def XCtr.none : XCtr := ⟨fun _ _ _ => .none, fun _ _ _ _ => .none⟩

/-- A loop's key: its first region. -/
def keyOf : Code → Option Nat
  | .region id _ _ => some id
  | .seq a b => match keyOf a with | some k => some k | none => keyOf b
  | .cond _ a b => match keyOf a with | some k => some k | none => keyOf b
  | .block _ a => keyOf a
  | .loop a => keyOf a
  | _ => none
def loopsOf : Code → List (Nat × Code)
  | .seq a b => loopsOf a ++ loopsOf b
  | .cond _ a b => loopsOf a ++ loopsOf b
  | .block _ a => loopsOf a
  | .loop a => ((keyOf a).getD 0, a) :: loopsOf a
  | _ => []

inductive Cmd where
  | code (f : FuncId) (c : Code) (fr : Fr)
  | loop (f : FuncId) (c : Code) (fr : Fr)
  | defs (ds : List (FuncId × List SV))
  | fn (dfr : Bool) (f : FuncId) (args : List SV)

structure RR where
  ex : SExit
  fr : Fr
  r : SV
  h : CHeap
  nx : Nat
  vcs : List Ob
  ft : Foot

def er {α : Type} (s : String) : Ex α := .error (.msg s)
def nofr : Fr := ⟨[], []⟩

def nth {α : Type} : List α → Nat → Option α
  | [], _ => none
  | a :: _, 0 => some a
  | _ :: l, n + 1 => nth l n
theorem nth_eq {α : Type} : ∀ (l : List α) (n : Nat), nth l n = l[n]?
  | [], n => by simp [nth]
  | a :: l, 0 => by simp [nth]
  | a :: l, n + 1 => by simp [nth, nth_eq l n]

/-- What is to be asked. -/
def coreE (fs : Facts) : E → E
  | .o1 .not a => coreE fs a
  | .o2 .and a b => match decideE fs a with | none => coreE fs a | some _ => coreE fs b
  | .o2 .or a b => match decideE fs a with | none => coreE fs a | some _ => coreE fs b
  | e => e

def compE : E → Bool
  | .o1 .not _ => true
  | .o2 .and _ _ => true
  | .o2 .or _ _ => true
  | _ => false
/-- Do the facts contradict each other? (Not all such are found.) -/
def contra (fs : Facts) : Facts → Bool
  | [] => false
  | (e, b) :: r => cond (compE e) (match decideE fs e with | some c => cond c (cond b (contra fs r) true) (cond b true (contra fs r)) | none => contra fs r) (contra fs r)

/-! ### paths: what is known on each, and what is there -/
abbrev Ps (α : Type) := Ex (List (Facts × α))
def goL {α β : Type} (f : Facts → α → Ps β) : List (Facts × α) → Ps β
  | [] => .ok []
  | (fs, a) :: r =>
    match f fs a with
    | .error e => .error e
    | .ok x =>
      match goL f r with
      | .error e => .error e
      | .ok y => .ok (x ++ y)
def bindP {α β : Type} (p : Ps α) (f : Facts → α → Ps β) : Ps β :=
  match p with
  | .error e => .error e
  | .ok l => goL f l
/-- Both ways, where it is not known. -/
def splitE : Nat → Facts → E → Ps Bool
  | 0, _, _ => er "too many splits"
  | n + 1, fs, e =>
    match decideE fs e with
    | some b => .ok [(fs, b)]
    | none =>
      match cond (contra ((coreE fs e, true) :: fs) fs) (.ok []) (splitE n ((coreE fs e, true) :: fs) e) with
      | .error m => .error m
      | .ok a =>
        match cond (contra ((coreE fs e, false) :: fs) fs) (.ok []) (splitE n ((coreE fs e, false) :: fs) e) with
        | .error m => .error m
        | .ok b => .ok (a ++ b)
def Prog.runF {α : Type} (n : Nat) : Prog α → Facts → CHeap → List Ob → Foot → Ps (ROut α)
  | .ret a, fs, h, vcs, ft => .ok [(fs, ⟨a, h, vcs, ft⟩)]
  | .fail m, _, _, _, _ => .error (.msg m)
  | .get m k, fs, h, vcs, ft =>
    match cget h m with
    | some o => (k o).runF n fs h vcs ⟨m :: ft.rd, ft.wr⟩
    | none => .error (.msg "no such name")
  | .put m o k, fs, h, vcs, ft => k.runF n fs (cput h m o) vcs ⟨ft.rd, m :: ft.wr⟩
  | .vc e k, fs, h, vcs, ft =>
    match decideO fs e with
    | some true => k.runF n fs h vcs ft
    | some false => .error (.msg "a condition that is false")
    | none => k.runF n fs h (e :: vcs) ft
  | .dec e k, fs, h, vcs, ft =>
    match splitE n fs e with
    | .error m => .error m
    | .ok l => goL (fun fs b => (k b).runF n fs h vcs ft) l

def allocOp : Op → Bool
  | .alloc _ => true
  | .box .. => true
  | .buildSlice .. => true
  | .makeMap .. => true
  | .makeChan .. => true
  | .call c => match c.callee with
    | .builtin .append => true
    | _ => false
  | _ => false
def allocsOf : List Oper → Nat → List Nat
  | [], _ => []
  | o :: r, n => cond (allocOp o.op) (n :: allocsOf r (n + 1)) (allocsOf r (n + 1))
def reserveC : List Nat → CHeap → CHeap
  | [], h => h
  | n :: r, h => reserveC r (cput h n .resv)
def stillResv (h : CHeap) : List Nat → List Nat
  | [] => []
  | n :: r => cond (isResv (cget h n)) (n :: stillResv h r) (stillResv h r)
def cfilter : CHeap → List Nat → CHeap
  | [], _ => []
  | (m, o) :: r, D => cond (inL m D) (cfilter r D) ((m, o) :: cfilter r D)
def cdrop (h : CHeap) (D : List Nat) : CHeap :=
  match D with
  | [] => h
  | D => cfilter h D

def wantX (n : Nat) (fs : Facts) (ops : List Oper) (sl : List SV) (o : Oper) : Ps Bool :=
  match o.guard with
  | none => .ok [(fs, true)]
  | some (j, want) =>
    match (nth ops j).bind (·.dst) with
    | none => er "guard"
    | some d =>
      match nth sl d with
      | some (.bool e) => bindP (splitE n fs e) fun fs b => .ok [(fs, cond b want (!want))]
      | some (.tup []) => .ok [(fs, false)]
      | _ => er "guard: no bool"

structure OpsOut where
  fr : Fr
  h : CHeap
  nx : Nat
  vcs : List Ob
  log : List (Foot × Bool)

structure OpOut where
  fr : Fr
  h : CHeap
  nx : Nat
  vcs : List Ob
  ft : Foot
  cl : Bool

abbrev Call := Facts → FuncId → List SV → CHeap → Nat → List Ob → Ps RR
def runOp (P : Program) (n : Nat) (call : Call) (ops : List Oper) (nm : Nat) (o : Oper) (fs : Facts) (fr : Fr) (h : CHeap) (nx : Nat) (vcs : List Ob) : Ps OpOut :=
  bindP (wantX n fs ops fr.sl o) fun fs b =>
    match b with
    | false => .ok [(fs, ⟨⟨putS fr.sl o.dst sundef, fr.df⟩, h, nx, vcs, Foot.nil, false⟩)]
    | true =>
      bindP ((opS P nm (evalS fr.sl) o.op).runF n fs h vcs Foot.nil) fun fs q =>
        match q.a with
        | .val v => .ok [(fs, ⟨⟨putS fr.sl o.dst v, fr.df⟩, q.h, nx, q.vcs, q.ft, false⟩)]
        | .skip => .ok [(fs, ⟨⟨putS fr.sl o.dst sundef, fr.df⟩, q.h, nx, q.vcs, q.ft, false⟩)]
        | .defer (.func g) cap args => .ok [(fs, ⟨⟨putS fr.sl o.dst sundef, (g, args ++ cap) :: fr.df⟩, q.h, nx, q.vcs, q.ft, true⟩)]
        | .defer _ _ _ => er "defer"
        | .call g args => bindP (call fs g args q.h nx q.vcs) fun fs rr => .ok [(fs, ⟨⟨putS fr.sl o.dst rr.r, fr.df⟩, rr.h, rr.nx, rr.vcs, q.ft.add rr.ft, true⟩)]

def runOps (P : Program) (n : Nat) (call : Call) (ops : List Oper) : List Oper → Nat → Facts → Fr → CHeap → Nat → List Ob → Ps OpsOut
  | [], _, fs, fr, h, nx, vcs => .ok [(fs, ⟨fr, h, nx, vcs, []⟩)]
  | o :: r, nm, fs, fr, h, nx, vcs =>
    bindP (runOp P n call ops nm o fs fr h nx vcs) fun fs q =>
      bindP (runOps P n call ops r (nm + 1) fs q.fr q.h q.nx q.vcs) fun fs z => .ok [(fs, ⟨z.fr, z.h, z.nx, z.vcs, (q.ft, q.cl) :: z.log⟩)]

def logF (log : List (Foot × Bool)) (i : Nat) : Foot := match nth log i with | some x => x.1 | none => Foot.nil
def logC (log : List (Foot × Bool)) (i : Nat) : Bool := match nth log i with | some x => x.2 | none => false
def logSum (log : List (Foot × Bool)) (L : List Nat) : Foot := ⟨log.flatMap (·.1.rd), log.flatMap (·.1.wr) ++ L⟩

/-! ### orders that are open: what hangs on the text alone, and what on what was touched -/
def drawS (ops : Array Oper) : Bool :=
  back ops && Region.noSelect ops && (List.range ops.size).all fun j => (List.range j).all fun i =>
    match ops[i]?, ops[j]? with
    | some oi, some oj => Nat.testBit ((masks ops).getD j 0) i || oi.apart ops oj
    | _, _ => true
def quietF (F : Foot) (c : Bool) : Bool := F.rd.isEmpty && F.wr.isEmpty && !c
def loudL : List (Foot × Bool) → Nat → List (Nat × Foot × Bool)
  | [], _ => []
  | (F, c) :: r, i => cond (quietF F c) (loudL r (i + 1)) ((i, F, c) :: loudL r (i + 1))
def calmF (Fi Fj : Foot) (ci cj : Bool) : Bool := apartL Fi.wr Fj.rd && apartL Fi.wr Fj.wr && apartL Fi.rd Fj.wr && !(ci && cj)
def loudOk (ms : List Nat) : List (Nat × Foot × Bool) → Bool
  | [] => true
  | (i, Fi, ci) :: r => r.all (fun x => cond (Nat.testBit (ms.getD x.1 0) i) true (calmF Fi x.2.1 ci x.2.2)) && loudOk ms r
def okDrawF (ops : Array Oper) (log : List (Foot × Bool)) : Bool := drawS ops && loudOk (masks ops) (loudL log 0)

def addL (n : Nat) (l : List Nat) : List Nat := cond (inL n l) l (n :: l)
def dedup : List Nat → List Nat → List Nat
  | [], acc => acc
  | n :: r, acc => dedup r (addL n acc)
def Foot.tidy (F : Foot) : Foot := ⟨dedup F.rd [], dedup F.wr []⟩

def leaves : SExit → Bool
  | .normal => true
  | .ret => true
  | _ => false
def isNormal : SExit → Bool
  | .normal => true
  | _ => false
def isExit (id : Nat) : SExit → Bool
  | .exit n => Nat.beq n id
  | _ => false

abbrev Rec := Cmd → Facts → CHeap → Nat → List Ob → Ps RR
def runStep (P : Program) (n : Nat) (X : XCtr) (rec : Rec) (cmd : Cmd) (fs : Facts) (h : CHeap) (nx : Nat) (vcs : List Ob) : Ps RR :=
  match cmd with
  | .code f c fr =>
    match c with
    | .skip => .ok [(fs, ⟨.normal, fr, sundef, h, nx, vcs, Foot.nil⟩)]
    | .label _ => .ok [(fs, ⟨.normal, fr, sundef, h, nx, vcs, Foot.nil⟩)]
    | .ret => .ok [(fs, ⟨.ret, fr, sundef, h, nx, vcs, Foot.nil⟩)]
    | .exit id => .ok [(fs, ⟨.exit id, fr, sundef, h, nx, vcs, Foot.nil⟩)]
    | .seq a b =>
      bindP (rec (.code f a fr) fs h nx vcs) fun fs q =>
        match q.ex with
        | .normal => bindP (rec (.code f b q.fr) fs q.h q.nx q.vcs) fun fs z => .ok [(fs, ⟨z.ex, z.fr, sundef, z.h, z.nx, z.vcs, q.ft.add z.ft⟩)]
        | _ => .ok [(fs, q)]
    | .cond x a b =>
      match evalS fr.sl x with
      | some (.bool e) =>
        bindP (splitE n fs e) fun fs t =>
          match t with
          | true => rec (.code f a fr) fs h nx vcs
          | false => rec (.code f b fr) fs h nx vcs
      | _ => er "cond: no bool"
    | .block id a =>
      bindP (rec (.code f a fr) fs h nx vcs) fun fs q => cond (isExit id q.ex) (.ok [(fs, ⟨.normal, q.fr, sundef, q.h, q.nx, q.vcs, q.ft⟩)]) (.ok [(fs, q)])
    | .loop a =>
      match X.lp f ((keyOf a).getD 0) fr nx with
      | some p => bindP (p.runF n fs h vcs Foot.nil) fun fs q => .ok [(fs, ⟨q.a.1, q.a.2.1, sundef, q.h, q.a.2.2, q.vcs, q.ft⟩)]
      | none => rec (.loop f a fr) fs h nx vcs
    | .region _ ops draw =>
      bindP (runOps P n (fun fs g args h nx vcs => rec (.fn false g args) fs h nx vcs) ops.toList ops.toList nx fs fr (reserveC (allocsOf ops.toList nx) h) (nx + ops.toList.length) vcs) fun fs z =>
        cond (cond draw (okDrawF ops z.log) true)
          (.ok [(fs, ⟨.normal, z.fr, sundef, cdrop z.h (stillResv z.h (allocsOf ops.toList nx)), z.nx, z.vcs, logSum z.log (allocsOf ops.toList nx)⟩)])
          (er "an order that is open")
    | _ => er "code that is not taken"
  | .loop f c fr =>
    bindP (rec (.code f c fr) fs h nx vcs) fun fs q =>
      match q.ex with
      | .normal => bindP (rec (.loop f c q.fr) fs q.h q.nx q.vcs) fun fs z => .ok [(fs, ⟨z.ex, z.fr, sundef, z.h, z.nx, z.vcs, q.ft.add z.ft⟩)]
      | _ => .ok [(fs, q)]
  | .defs ds =>
    match ds with
    | [] => .ok [(fs, ⟨.normal, nofr, sundef, h, nx, vcs, Foot.nil⟩)]
    | (g, args) :: ds =>
      bindP (rec (.fn true g args) fs h nx vcs) fun fs q =>
        bindP (rec (.defs ds) fs q.h q.nx q.vcs) fun fs z => .ok [(fs, ⟨.normal, nofr, sundef, z.h, z.nx, z.vcs, q.ft.add z.ft⟩)]
  | .fn dfr f args =>
    match cond dfr none (X.fn f args nx) with
    | some p => bindP (p.runF n fs h vcs Foot.nil) fun fs q => .ok [(fs, ⟨.normal, nofr, q.a.1, q.h, q.a.2, q.vcs, q.ft⟩)]
    | none =>
      match P.funcs[f]? with
      | none => er "no function"
      | some fn =>
        match fn.body with
        | none => er "no body"
        | some c =>
          cond (Nat.ble args.length fn.ntmps)
            (bindP (rec (.code f c ⟨args ++ repl (fn.ntmps - args.length) sundef, []⟩) fs h nx vcs) fun fs q =>
              cond (leaves q.ex && cond dfr (q.fr.df.isEmpty) true)
                (bindP (rec (.defs q.fr.df) fs q.h q.nx q.vcs) fun fs z =>
                  bindP ((resS P fn q.fr.sl).runF n fs z.h z.vcs Foot.nil) fun fs y =>
                    cond y.ft.wr.isEmpty (.ok [(fs, ⟨.normal, nofr, y.a, z.h, z.nx, y.vcs, ((q.ft.add z.ft).add y.ft).tidy⟩)]) (er "results"))
                (er "leaves by an exit"))
            (er "arguments")

def run (P : Program) (n : Nat) (X : XCtr) : Nat → Rec
  | 0 => fun _ _ _ _ _ => er "fuel"
  | k + 1 => runStep P n X (run P n X k)

structure Leaf where
  fs : Facts
  ex : SExit
  fr : Fr
  r : SV
  h : CHeap
  nx : Nat
  vcs : List Ob

/-- All paths: where something is undecided, both. -/
def explore (P : Program) (X : XCtr) (fuel : Nat) (cmd : Cmd) (h : CHeap) (nx : Nat) (n : Nat) (fs : Facts) : Ex (List Leaf) :=
  match run P n X fuel cmd fs h nx [] with
  | .ok l => .ok (l.map fun x => ⟨x.1, x.2.ex, x.2.fr, x.2.r, x.2.h, x.2.nx, x.2.vcs⟩)
  | .error m => .error m

end Go.Sx
