/-
  SX, PART 12: the executor: it runs code over symbolic states, in the kernel; what it says is a run.
-/
import Derived.Test.YtgopjdknmjjheaaSxMain
namespace Go.Sx
open Go.RowKit
set_option linter.unusedVariables false
set_option linter.unusedSimpArgs false

structure XCtr where
  fn : FuncId → List SV → Nat → Option (Prog (SV × Nat))
  lp : FuncId → Nat → Fr → Nat → Option (Prog (SExit × Fr × Nat))
def XCtr.none : XCtr := ⟨fun _ _ _ => .none, fun _ _ _ _ => .none⟩

/-- A loop's key: its first region. -/
def keyOf : Code → Option Nat
  | .region id _ _ => some id
  | .seq a b => match keyOf a with | some k => some k | none => keyOf b
  | .cond _ a b => match keyOf a with | some k => some k | none => keyOf b
  | .block _ a => keyOf a
  | .loop a => keyOf a
  | _ => none
def loopsOf : Code → List (Nat × Code)
  | .seq a b => loopsOf a ++ loopsOf b
  | .cond _ a b => loopsOf a ++ loopsOf b
  | .block _ a => loopsOf a
  | .loop a => ((keyOf a).getD 0, a) :: loopsOf a
  | _ => []

inductive Cmd where
  | code (f : FuncId) (c : Code) (fr : Fr)
  | loop (f : FuncId) (c : Code) (fr : Fr)
  | defs (ds : List (FuncId × List SV))
  | fn (dfr : Bool) (f : FuncId) (args : List SV)

structure RR where
  ex : SExit
  fr : Fr
  r : SV
  h : CHeap
  nx : Nat
  vcs : List Ob
  ft : Foot

def er {α : Type} (s : String) : Ex α := .error (.msg s)
def nofr : Fr := ⟨[], []⟩

def nth {α : Type} : List α → Nat → Option α
  | [], _ => none
  | a :: _, 0 => some a
  | _ :: l, n + 1 => nth l n
theorem nth_eq {α : Type} : ∀ (l : List α) (n : Nat), nth l n = l[n]?
  | [], n => by simp [nth]
  | a :: l, 0 => by simp [nth]
  | a :: l, n + 1 => by simp [nth, nth_eq l n]

def allocOp : Op → Bool
  | .alloc _ => true
  | .box .. => true
  | .buildSlice .. => true
  | .makeMap .. => true
  | .makeChan .. => true
  | .call c => match c.callee with
    | .builtin .append => true
    | _ => false
  | _ => false
def allocsOf : List Oper → Nat → List Nat
  | [], _ => []
  | o :: r, n => cond (allocOp o.op) (n :: allocsOf r (n + 1)) (allocsOf r (n + 1))
def reserveC : List Nat → CHeap → CHeap
  | [], h => h
  | n :: r, h => reserveC r (cput h n .resv)
def stillResv (h : CHeap) : List Nat → List Nat
  | [] => []
  | n :: r => cond (isResv (cget h n)) (n :: stillResv h r) (stillResv h r)
def cfilter : CHeap → List Nat → CHeap
  | [], _ => []
  | (m, o) :: r, D => cond (inL m D) (cfilter r D) ((m, o) :: cfilter r D)
def cdrop (h : CHeap) (D : List Nat) : CHeap :=
  match D with
  | [] => h
  | D => cfilter h D

def wantX (fs : Facts) (ops : List Oper) (sl : List SV) (o : Oper) : Ex Bool :=
  match o.guard with
  | none => .ok true
  | some (j, want) =>
    match (nth ops j).bind (·.dst) with
    | none => er "guard"
    | some d =>
      match nth sl d with
      | some (.bool e) =>
        match decideE fs e with
        | some b => .ok (cond b want (!want))
        | none => .error (.undecided e)
      | some (.tup []) => .ok false
      | _ => er "guard: no bool"

structure OpsOut where
  fr : Fr
  h : CHeap
  nx : Nat
  vcs : List Ob
  log : List (Foot × Bool)

structure OpOut where
  fr : Fr
  h : CHeap
  nx : Nat
  vcs : List Ob
  ft : Foot
  cl : Bool

def runOp (P : Program) (fs : Facts) (call : FuncId → List SV → CHeap → Nat → List Ob → Ex RR) (ops : List Oper) (nm : Nat) (o : Oper) (fr : Fr) (h : CHeap) (nx : Nat) (vcs : List Ob) : Ex OpOut :=
  match wantX fs ops fr.sl o with
  | .error e => .error e
  | .ok false => .ok ⟨⟨putS fr.sl o.dst sundef, fr.df⟩, h, nx, vcs, Foot.nil, false⟩
  | .ok true =>
    match (opS P nm (evalS fr.sl) o.op).run fs h vcs Foot.nil with
    | .error e => .error e
    | .ok q =>
      match q.a with
      | .val v => .ok ⟨⟨putS fr.sl o.dst v, fr.df⟩, q.h, nx, q.vcs, q.ft, false⟩
      | .skip => .ok ⟨⟨putS fr.sl o.dst sundef, fr.df⟩, q.h, nx, q.vcs, q.ft, false⟩
      | .defer (.func g) cap args => .ok ⟨⟨putS fr.sl o.dst sundef, (g, args ++ cap) :: fr.df⟩, q.h, nx, q.vcs, q.ft, true⟩
      | .defer _ _ _ => er "defer"
      | .call g args =>
        match call g args q.h nx q.vcs with
        | .error e => .error e
        | .ok rr => .ok ⟨⟨putS fr.sl o.dst rr.r, fr.df⟩, rr.h, rr.nx, rr.vcs, q.ft.add rr.ft, true⟩

def runOps (P : Program) (fs : Facts) (call : FuncId → List SV → CHeap → Nat → List Ob → Ex RR) (ops : List Oper) : List Oper → Nat → Fr → CHeap → Nat → List Ob → Ex OpsOut
  | [], _, fr, h, nx, vcs => .ok ⟨fr, h, nx, vcs, []⟩
  | o :: r, nm, fr, h, nx, vcs =>
    match runOp P fs call ops nm o fr h nx vcs with
    | .error e => .error e
    | .ok q =>
      match runOps P fs call ops r (nm + 1) q.fr q.h q.nx q.vcs with
      | .error e => .error e
      | .ok z => .ok ⟨z.fr, z.h, z.nx, z.vcs, (q.ft, q.cl) :: z.log⟩

def logF (log : List (Foot × Bool)) (i : Nat) : Foot := match nth log i with | some x => x.1 | none => Foot.nil
def logC (log : List (Foot × Bool)) (i : Nat) : Bool := match nth log i with | some x => x.2 | none => false
def logSum (log : List (Foot × Bool)) (L : List Nat) : Foot := ⟨log.flatMap (·.1.rd), log.flatMap (·.1.wr) ++ L⟩

def addL (n : Nat) (l : List Nat) : List Nat := cond (inL n l) l (n :: l)
def dedup : List Nat → List Nat → List Nat
  | [], acc => acc
  | n :: r, acc => dedup r (addL n acc)
def Foot.tidy (F : Foot) : Foot := ⟨dedup F.rd [], dedup F.wr []⟩

def leaves : SExit → Bool
  | .normal => true
  | .ret => true
  | _ => false
def isNormal : SExit → Bool
  | .normal => true
  | _ => false
def isExit (id : Nat) : SExit → Bool
  | .exit n => Nat.beq n id
  | _ => false

def runStep (P : Program) (fs : Facts) (X : XCtr) (rec : Cmd → CHeap → Nat → List Ob → Ex RR) (cmd : Cmd) (h : CHeap) (nx : Nat) (vcs : List Ob) : Ex RR :=
  match cmd with
  | .code f c fr =>
    match c with
    | .skip => .ok ⟨.normal, fr, sundef, h, nx, vcs, Foot.nil⟩
    | .label _ => .ok ⟨.normal, fr, sundef, h, nx, vcs, Foot.nil⟩
    | .ret => .ok ⟨.ret, fr, sundef, h, nx, vcs, Foot.nil⟩
    | .exit id => .ok ⟨.exit id, fr, sundef, h, nx, vcs, Foot.nil⟩
    | .seq a b =>
      match rec (.code f a fr) h nx vcs with
      | .error e => .error e
      | .ok q =>
        match q.ex with
        | .normal =>
          match rec (.code f b q.fr) q.h q.nx q.vcs with
          | .error e => .error e
          | .ok z => .ok ⟨z.ex, z.fr, sundef, z.h, z.nx, z.vcs, q.ft.add z.ft⟩
        | _ => .ok q
    | .cond x a b =>
      match evalS fr.sl x with
      | some (.bool e) =>
        match decideE fs e with
        | some true => rec (.code f a fr) h nx vcs
        | some false => rec (.code f b fr) h nx vcs
        | none => .error (.undecided e)
      | _ => er "cond: no bool"
    | .block id a =>
      match rec (.code f a fr) h nx vcs with
      | .error e => .error e
      | .ok q => cond (isExit id q.ex) (.ok ⟨.normal, q.fr, sundef, q.h, q.nx, q.vcs, q.ft⟩) (.ok q)
    | .loop a =>
      match X.lp f ((keyOf a).getD 0) fr nx with
      | some p =>
        match p.run fs h vcs Foot.nil with
        | .error e => .error e
        | .ok q => .ok ⟨q.a.1, q.a.2.1, sundef, q.h, q.a.2.2, q.vcs, q.ft⟩
      | none => rec (.loop f a fr) h nx vcs
    | .region _ ops draw =>
      match runOps P fs (fun g args h nx vcs => rec (.fn false g args) h nx vcs) ops.toList ops.toList nx fr (reserveC (allocsOf ops.toList nx) h) (nx + ops.toList.length) vcs with
      | .error e => .error e
      | .ok z =>
        cond (cond draw (okDraw ops (logF z.log) (logC z.log)) true)
          (.ok ⟨.normal, z.fr, sundef, cdrop z.h (stillResv z.h (allocsOf ops.toList nx)), z.nx, z.vcs, logSum z.log (allocsOf ops.toList nx)⟩)
          (er "an order that is open")
    | _ => er "code that is not taken"
  | .loop f c fr =>
    match rec (.code f c fr) h nx vcs with
    | .error e => .error e
    | .ok q =>
      match q.ex with
      | .normal =>
        match rec (.loop f c q.fr) q.h q.nx q.vcs with
        | .error e => .error e
        | .ok z => .ok ⟨z.ex, z.fr, sundef, z.h, z.nx, z.vcs, q.ft.add z.ft⟩
      | _ => .ok q
  | .defs ds =>
    match ds with
    | [] => .ok ⟨.normal, nofr, sundef, h, nx, vcs, Foot.nil⟩
    | (g, args) :: ds =>
      match rec (.fn true g args) h nx vcs with
      | .error e => .error e
      | .ok q =>
        match rec (.defs ds) q.h q.nx q.vcs with
        | .error e => .error e
        | .ok z => .ok ⟨.normal, nofr, sundef, z.h, z.nx, z.vcs, q.ft.add z.ft⟩
  | .fn dfr f args =>
    match cond dfr none (X.fn f args nx) with
    | some p =>
      match p.run fs h vcs Foot.nil with
      | .error e => .error e
      | .ok q => .ok ⟨.normal, nofr, q.a.1, q.h, q.a.2, q.vcs, q.ft⟩
    | none =>
      match P.funcs[f]? with
      | none => er "no function"
      | some fn =>
        match fn.body with
        | none => er "no body"
        | some c =>
          cond (Nat.ble args.length fn.ntmps)
            (match rec (.code f c ⟨args ++ repl (fn.ntmps - args.length) sundef, []⟩) h nx vcs with
            | .error e => .error e
            | .ok q =>
              cond (leaves q.ex && cond dfr (q.fr.df.isEmpty) true)
                (match rec (.defs q.fr.df) q.h q.nx q.vcs with
                | .error e => .error e
                | .ok z =>
                  match (resS P fn q.fr.sl).run fs z.h z.vcs Foot.nil with
                  | .error e => .error e
                  | .ok y => cond y.ft.wr.isEmpty (.ok ⟨.normal, nofr, y.a, z.h, z.nx, y.vcs, ((q.ft.add z.ft).add y.ft).tidy⟩) (er "results"))
                (er "leaves by an exit"))
            (er "arguments")

def run (P : Program) (fs : Facts) (X : XCtr) : Nat → Cmd → CHeap → Nat → List Ob → Ex RR
  | 0 => fun _ _ _ _ => er "fuel"
  | n + 1 => runStep P fs X (run P fs X n)

structure Leaf where
  fs : Facts
  ex : SExit
  fr : Fr
  r : SV
  h : CHeap
  nx : Nat
  vcs : List Ob

/-- What is to be asked. -/
def coreE (fs : Facts) : E → E
  | .o1 .not a => coreE fs a
  | .o2 .and a b => match decideE fs a with | none => coreE fs a | some _ => coreE fs b
  | .o2 .or a b => match decideE fs a with | none => coreE fs a | some _ => coreE fs b
  | e => e

def compE : E → Bool
  | .o1 .not _ => true
  | .o2 .and _ _ => true
  | .o2 .or _ _ => true
  | _ => false
/-- Do the facts contradict each other? (Not all such are found.) -/
def contra (fs : Facts) : Facts → Bool
  | [] => false
  | (e, b) :: r => cond (compE e) (match decideE fs e with | some c => cond c (cond b (contra fs r) true) (cond b true (contra fs r)) | none => contra fs r) (contra fs r)
/-- All paths: where something is undecided, both. -/
def explore (P : Program) (X : XCtr) (fuel : Nat) (cmd : Cmd) (h : CHeap) (nx : Nat) : Nat → Facts → Ex (List Leaf)
  | 0, _ => er "too many splits"
  | n + 1, fs =>
    match run P fs X fuel cmd h nx [] with
    | .ok q => .ok [⟨fs, q.ex, q.fr, q.r, q.h, q.nx, q.vcs⟩]
    | .error (.undecided e) =>
      match cond (contra ((coreE fs e, true) :: fs) fs) (.ok []) (explore P X fuel cmd h nx n ((coreE fs e, true) :: fs)) with
      | .error m => .error m
      | .ok a =>
        match cond (contra ((coreE fs e, false) :: fs) fs) (.ok []) (explore P X fuel cmd h nx n ((coreE fs e, false) :: fs)) with
        | .error m => .error m
        | .ok b => .ok (a ++ b)
    | .error m => .error m

end Go.Sx
