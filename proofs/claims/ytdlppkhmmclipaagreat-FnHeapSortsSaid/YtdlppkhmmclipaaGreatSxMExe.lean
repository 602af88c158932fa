/-
  SX, PART 16: a law's arguments as symbolic values: an environment for them.
-/
import Derived.Test.YtdlppkhmmclipaaGreatSxMRun
import Derived.ProofKit
import Derived.OpenShut
import Derived.Carry
import Derived.ChangeSame
import Derived.ChangeArms
namespace Go.Sx
open Go.RowKit
set_option linter.unusedVariables false
set_option linter.unusedSimpArgs false
structure dF where
 fn : FuncId -> List SV -> Nat -> Option (Prog (SV × Nat))
 lp : FuncId -> Nat -> Fr -> Nat -> aQ -> Option (Prog (eI × Fr × Nat))
 die : Bool := false
def dF.none : dF := ⟨fun _ _ _ => .none, fun _ _ _ _ _ => .none, false⟩
def dF.Ba (X : dF) : dF := { X with die := true }
def fC : List Ob -> Bool
 | .e (.bl false) :: _ => true
 | _ => false
def HW : Op -> Bool
 | .panic _ => true
 | _ => false
def keyOf : Code -> Option Nat
 | .region id _ _ => some id
 | .seq a b => match keyOf a with | some k => some k | none => keyOf b
 | .cond _ a b => match keyOf a with | some k => some k | none => keyOf b
 | .block _ a => keyOf a
 | .loop a => keyOf a
 | _ => none
def bK : Code -> List (Nat × Code)
 | .seq a b => bK a ++ bK b
 | .cond _ a b => bK a ++ bK b
 | .block _ a => bK a
 | .loop a => ((keyOf a).getD 0, a) :: bK a
 | _ => []
inductive VG where
 | code (f : FuncId) (c : Code) (fr : Fr)
 | loop (f : FuncId) (c : Code) (fr : Fr)
 | defs (ds : List (FuncId × List SV))
 | fn (dfr : Bool) (f : FuncId) (args : List SV)
structure RR where
 ex : eI
 fr : Fr
 r : SV
 h : aQ
 nx : Nat
 vcs : List Ob
 ft : aG
def er {α : Type} (s : String) : Ex α := .error (.msg s)
def Gr : Fr := ⟨[], []⟩
def nth {α : Type} : List α -> Nat -> Option α
 | [], _ => none
 | a :: _, 0 => some a
 | _ :: l, n + 1 => nth l n
theorem s4 {α : Type} : ∀ (l : List α) (n : Nat), nth l n = l[n]?
 | [], n => by simp [nth]
 | a :: l, 0 => by simp [nth]
 | a :: l, n + 1 => by simp [nth, s4 l n]
def ly (fs : aa) : E -> E
 | .o1 .not a => ly fs a
 | .o2 .and a b => match ck fs a with | none => ly fs a | some _ => ly fs b
 | .o2 .or a b => match ck fs a with | none => ly fs a | some _ => ly fs b
 | e => e
def SL : E -> Bool
 | .o1 .not _ => true
 | .o2 .and _ _ => true
 | .o2 .or _ _ => true
 | _ => false
def contra (fs : aa) : aa -> Bool
 | [] => false
 | (e, b) :: r => cond (SL e) (match ck fs e with | some c => cond c (cond b (contra fs r) true) (cond b true (contra fs r)) | none => contra fs r) (contra fs r)
abbrev Ps (α : Type) := Ex (List (aa × α))
def Zl {α β : Type} (f : aa -> α -> Ps β) : List (aa × α) -> Ps β
 | [] => .ok []
 | (fs, a) :: r =>
   match f fs a with
   | .error e => .error e
   | .ok x =>
     match Zl f r with
     | .error e => .error e
     | .ok y => .ok (x ++ y)
def fY {α β : Type} (p : Ps α) (f : aa -> α -> Ps β) : Ps β :=
 match p with
 | .error e => .error e
 | .ok l => Zl f l
def lL : Nat -> aa -> E -> Ps Bool
 | 0, _, _ => er "too many splits"
 | n + 1, fs, e =>
   match ck fs e with
   | some b => .ok [(fs, b)]
   | none =>
     match cond (contra ((ly fs e, true) :: fs) fs) (.ok []) (lL n ((ly fs e, true) :: fs) e) with
     | .error m => .error m
     | .ok a =>
       match cond (contra ((ly fs e, false) :: fs) fs) (.ok []) (lL n ((ly fs e, false) :: fs) e) with
       | .error m => .error m
       | .ok b => .ok (a ++ b)
def Prog.p7 {α : Type} (n : Nat) : Prog α -> aa -> aQ -> List Ob -> aG -> Ps (YF α)
 | .ret a, fs, h, vcs, ft => .ok [(fs, ⟨a, h, vcs, ft⟩)]
 | .fail m, _, _, _, _ => .error (.msg m)
 | .get m k, fs, h, vcs, ft =>
   match bZ h m with
   | some o => (k o).p7 n fs h vcs ⟨m :: ft.rd, ft.wr⟩
   | none => .error (.msg "no such name")
 | .put m o k, fs, h, vcs, ft => k.p7 n fs (Ai h m o) vcs ⟨ft.rd, m :: ft.wr⟩
 | .vc e k, fs, h, vcs, ft =>
   match nH fs e with
   | some true => k.p7 n fs h vcs ft
   | some false => .error (.msg "a condition that is false")
   | none => k.p7 n fs h (e :: vcs) ft
 | .dec e k, fs, h, vcs, ft =>
   match lL n fs e with
   | .error m => .error m
   | .ok l => Zl (fun fs b => (k b).p7 n fs h vcs ft) l
def GD : Op -> Bool
 | .alloc _ => true
 | .box .. => true
 | .buildSlice .. => true
 | .makeMap .. => true
 | .makeChan .. => true
 | .range .. => true
 | .makeSlice .. => true
 | .call c => match c.callee with
   | .builtin .append => true
   | _ => false
 | _ => false
def fM : List Oper -> Nat -> List Nat
 | [], _ => []
 | o :: r, n => cond (GD o.op) (n :: fM r (n + 1)) (fM r (n + 1))
def pn : List Nat -> aQ -> aQ
 | [], h => h
 | n :: r, h => pn r (Ai h n .dP)
def iE (h : aQ) : List Nat -> List Nat
 | [] => []
 | n :: r => cond (Nl (bZ h n)) (n :: iE h r) (iE h r)
def pU : aQ -> List Nat -> aQ
 | [], _ => []
 | (m, o) :: r, D => cond (qm m D) (pU r D) ((m, o) :: pU r D)
def Nb (h : aQ) (D : List Nat) : aQ :=
 match D with
 | [] => h
 | D => pU h D
def Kw (n : Nat) (fs : aa) (ops : List Oper) (sl : List SV) (o : Oper) : Ps Bool :=
 match o.guard with
 | none => .ok [(fs, true)]
 | some (j, want) =>
   match (nth ops j).bind (·.dst) with
   | none => er "guard"
   | some d =>
     match nth sl d with
     | some (.bool e) => fY (lL n fs e) fun fs b => .ok [(fs, cond b want (!want))]
     | some (.fq []) => .ok [(fs, false)]
     | _ => er "guard: no bool"
structure MO where
 fr : Fr
 h : aQ
 nx : Nat
 vcs : List Ob
 log : List (aG × Bool)
structure GN where
 fr : Fr
 h : aQ
 nx : Nat
 vcs : List Ob
 ft : aG
 cl : Bool
abbrev Call := aa -> FuncId -> List SV -> aQ -> Nat -> List Ob -> Ps RR
def Ls {α : Type} (die : Bool) (x : Ps α) (d : Ps α) : Ps α :=
 match x with
 | .error (.msg m) => cond die d (.error (.msg m))
 | x => x
def M8 (P : Program) (n : Nat) (die : Bool) (call : Call) (ops : List Oper) (nm : Nat) (o : Oper) (fs : aa) (fr : Fr) (h : aQ) (nx : Nat) (vcs : List Ob) : Ps GN :=
 fY (Kw n fs ops fr.sl o) fun fs b =>
  match b with
  | false => .ok [(fs, ⟨⟨jb fr.sl o.dst bH, fr.df⟩, h, nx, vcs, aG.nil, false⟩)]
  | true =>
    cond (HW o.op) (.ok [(fs, ⟨fr, h, nx, .e (.bl false) :: vcs, aG.nil, false⟩)]) <|
    Ls die (fY ((lb P nm (ff fr.sl) o.op).p7 n fs h vcs aG.nil) fun fs q =>
     match q.a with
     | .val v => .ok [(fs, ⟨⟨jb fr.sl o.dst v, fr.df⟩, q.h, nx, q.vcs, q.ft, false⟩)]
     | .skip => .ok [(fs, ⟨⟨jb fr.sl o.dst bH, fr.df⟩, q.h, nx, q.vcs, q.ft, false⟩)]
     | .defer (.func g) cap args => .ok [(fs, ⟨⟨jb fr.sl o.dst bH, (g, args ++ cap) :: fr.df⟩, q.h, nx, q.vcs, q.ft, true⟩)]
     | .defer _ _ _ => er "defer"
     | .call g args => fY (call fs g args q.h nx q.vcs) fun fs rr => .ok [(fs, ⟨⟨jb fr.sl o.dst rr.r, fr.df⟩, rr.h, rr.nx, rr.vcs, q.ft.add rr.ft, true⟩)])
     (.ok [(fs, ⟨fr, h, nx, .e (.bl false) :: vcs, aG.nil, false⟩)])
def xa (P : Program) (n : Nat) (die : Bool) (call : Call) (ops : List Oper) : List Oper -> Nat -> aa -> Fr -> aQ -> Nat -> List Ob -> Ps MO
 | [], _, fs, fr, h, nx, vcs => .ok [(fs, ⟨fr, h, nx, vcs, []⟩)]
 | o :: r, nm, fs, fr, h, nx, vcs =>
   fY (M8 P n die call ops nm o fs fr h nx vcs) fun fs q =>
    cond (fC q.vcs) (.ok [(fs, ⟨fr, q.h, q.nx, q.vcs, []⟩)]) <|
    fY (xa P n die call ops r (nm + 1) fs q.fr q.h q.nx q.vcs) fun fs z => cond (fC z.vcs) (.ok [(fs, ⟨fr, z.h, z.nx, z.vcs, []⟩)]) (.ok [(fs, ⟨z.fr, z.h, z.nx, z.vcs, (q.ft, q.cl) :: z.log⟩)])
def oF (log : List (aG × Bool)) (i : Nat) : aG := match nth log i with | some x => x.1 | none => aG.nil
def uP (log : List (aG × Bool)) (i : Nat) : Bool := match nth log i with | some x => x.2 | none => false
def Xm (log : List (aG × Bool)) (L : List Nat) : aG := ⟨log.flatMap (·.1.rd), log.flatMap (·.1.wr) ++ L⟩
def Sz (ops : Array Oper) : Bool :=
 back ops && Region.noSelect ops && (List.range ops.size).all fun j => (List.range j).all fun i =>
  match ops[i]?, ops[j]? with
  | some oi, some oj => Nat.testBit ((wu ops).getD j 0) i || oi.apart ops oj
  | _, _ => true
def mY (F : aG) (c : Bool) : Bool := F.rd.isEmpty && F.wr.isEmpty && !c
def nP : List (aG × Bool) -> Nat -> List (Nat × aG × Bool)
 | [], _ => []
 | (F, c) :: r, i => cond (mY F c) (nP r (i + 1)) ((i, F, c) :: nP r (i + 1))
def uw (Fi Fj : aG) (ci cj : Bool) : Bool := lY Fi.wr Fj.rd && lY Fi.wr Fj.wr && lY Fi.rd Fj.wr && !(ci && cj)
def AU (ms : List Nat) : List (Nat × aG × Bool) -> Bool
 | [] => true
 | (i, Fi, ci) :: r => r.all (fun x => cond (Nat.testBit (ms.getD x.1 0) i) true (uw Fi x.2.1 ci x.2.2)) && AU ms r
def vi (ops : Array Oper) (log : List (aG × Bool)) : Bool := Sz ops && AU (wu ops) (nP log 0)
def Z5 (n : Nat) (l : List Nat) : List Nat := cond (qm n l) l (n :: l)
def dedup : List Nat -> List Nat -> List Nat
 | [], acc => acc
 | n :: r, acc => dedup r (Z5 n acc)
def aG.tidy (F : aG) : aG := ⟨dedup F.rd [], dedup F.wr []⟩
def leaves : eI -> Bool
 | .normal => true
 | .ret => true
 | _ => false
def BL (id : Nat) : eI -> Bool
 | .exit n => Nat.beq n id
 | _ => false
abbrev Rec := VG -> aa -> aQ -> Nat -> List Ob -> Ps RR
def eY (P : Program) (n : Nat) (X : dF) (rec : Rec) (cmd : VG) (fs : aa) (h : aQ) (nx : Nat) (vcs : List Ob) : Ps RR :=
 match cmd with
 | .code f c fr =>
   match c with
   | .skip => .ok [(fs, ⟨.normal, fr, bH, h, nx, vcs, aG.nil⟩)]
   | .label _ => .ok [(fs, ⟨.normal, fr, bH, h, nx, vcs, aG.nil⟩)]
   | .ret => .ok [(fs, ⟨.ret, fr, bH, h, nx, vcs, aG.nil⟩)]
   | .exit id => .ok [(fs, ⟨.exit id, fr, bH, h, nx, vcs, aG.nil⟩)]
   | .seq a b =>
     fY (rec (.code f a fr) fs h nx vcs) fun fs q =>
      match q.ex with
      | .normal => fY (rec (.code f b q.fr) fs q.h q.nx q.vcs) fun fs z => .ok [(fs, ⟨z.ex, z.fr, bH, z.h, z.nx, z.vcs, q.ft.add z.ft⟩)]
      | _ => .ok [(fs, q)]
   | .cond x a b =>
     match ff fr.sl x with
     | some (.bool e) =>
       fY (lL n fs e) fun fs t =>
        match t with
        | true => rec (.code f a fr) fs h nx vcs
        | false => rec (.code f b fr) fs h nx vcs
     | _ => er "cond: no bool"
   | .block id a =>
     fY (rec (.code f a fr) fs h nx vcs) fun fs q => cond (BL id q.ex) (.ok [(fs, ⟨.normal, q.fr, bH, q.h, q.nx, q.vcs, q.ft⟩)]) (.ok [(fs, q)])
   | .loop a =>
     match X.lp f ((keyOf a).getD 0) fr nx h with
     | some p => fY (p.p7 n fs h vcs aG.nil) fun fs q => .ok [(fs, ⟨q.a.1, q.a.2.1, bH, q.h, q.a.2.2, q.vcs, q.ft⟩)]
     | none => rec (.loop f a fr) fs h nx vcs
   | .region _ ops draw =>
     fY (xa P n X.die (fun fs g args h nx vcs => rec (.fn false g args) fs h nx vcs) ops.toList ops.toList nx fs fr (pn (fM ops.toList nx) h) (nx + ops.toList.length) vcs) fun fs z =>
      cond (fC z.vcs) (.ok [(fs, ⟨.ret, fr, bH, h, nx, z.vcs, aG.nil⟩)]) <|
      cond (cond (Nat.ble (nx + ops.toList.length) 500000) (cond draw (vi ops z.log) true) false)
       (.ok [(fs, ⟨.normal, z.fr, bH, Nb z.h (iE z.h (fM ops.toList nx)), z.nx, z.vcs, Xm z.log (fM ops.toList nx)⟩)])
       (er "an order that is open")
   | _ => er "code that is not taken"
 | .loop f c fr =>
   fY (rec (.code f c fr) fs h nx vcs) fun fs q =>
    match q.ex with
    | .normal => fY (rec (.loop f c q.fr) fs q.h q.nx q.vcs) fun fs z => .ok [(fs, ⟨z.ex, z.fr, bH, z.h, z.nx, z.vcs, q.ft.add z.ft⟩)]
    | _ => .ok [(fs, q)]
 | .defs ds =>
   match ds with
   | [] => .ok [(fs, ⟨.normal, Gr, bH, h, nx, vcs, aG.nil⟩)]
   | (g, args) :: ds =>
     fY (rec (.fn true g args) fs h nx vcs) fun fs q =>
      cond (fC q.vcs) (.ok [(fs, ⟨.ret, Gr, bH, h, nx, q.vcs, aG.nil⟩)]) <|
      fY (rec (.defs ds) fs q.h q.nx q.vcs) fun fs z => .ok [(fs, ⟨.normal, Gr, bH, z.h, z.nx, z.vcs, q.ft.add z.ft⟩)]
 | .fn dfr f args =>
   match cond dfr none (X.fn f args nx) with
   | some p => fY (p.p7 n fs h vcs aG.nil) fun fs q => .ok [(fs, ⟨.normal, Gr, q.a.1, q.h, q.a.2, q.vcs, q.ft⟩)]
   | none =>
     match P.funcs[f]? with
     | none => er "no function"
     | some fn =>
       match fn.body with
       | none => er "no body"
       | some c =>
         cond (Nat.ble args.length fn.ntmps)
          (fY (rec (.code f c ⟨args ++ p5 (fn.ntmps - args.length) bH, []⟩) fs h nx vcs) fun fs q =>
           cond (fC q.vcs) (.ok [(fs, ⟨.ret, Gr, bH, h, nx, q.vcs, aG.nil⟩)]) <|
           cond (leaves q.ex && cond dfr (q.fr.df.isEmpty) true)
            (fY (rec (.defs q.fr.df) fs q.h q.nx q.vcs) fun fs z =>
             cond (fC z.vcs) (.ok [(fs, ⟨.ret, Gr, bH, h, nx, z.vcs, aG.nil⟩)]) <|
             fY ((P1 P fn q.fr.sl).p7 n fs z.h z.vcs aG.nil) fun fs y =>
              cond y.ft.wr.isEmpty (.ok [(fs, ⟨.normal, Gr, y.a, z.h, z.nx, y.vcs, ((q.ft.add z.ft).add y.ft).tidy⟩)]) (er "results"))
            (er "leaves by an exit"))
          (er "arguments")
def run (P : Program) (n : Nat) (X : dF) : Nat -> Rec
 | 0 => fun _ _ _ _ _ => er "fuel"
 | k + 1 => eY P n X (run P n X k)
structure bR where
 fs : aa
 ex : eI
 fr : Fr
 r : SV
 h : aQ
 nx : Nat
 vcs : List Ob
def explore (P : Program) (X : dF) (fuel : Nat) (cmd : VG) (h : aQ) (nx : Nat) (n : Nat) (fs : aa) : Ex (List bR) :=
 match run P n X fuel cmd fs h nx [] with
 | .ok l => .ok (l.map fun x => ⟨x.1, x.2.ex, x.2.fr, x.2.r, x.2.h, x.2.nx, x.2.vcs⟩)
 | .error m => .error m
def dF.cR (P : Program) (X : dF) : Ext where
 fn f args nx p := X.fn f args nx = some p
 lp c fr nx p := ∃ f fn body k h, P.funcs[f]? = some fn /\ fn.body = some body /\ (k, c) ∈ bK body /\ X.lp f k fr nx h = some p
def lR (P : Program) (f : FuncId) (l : List (Nat × Code)) : Prop := ∃ fn body, P.funcs[f]? = some fn /\ fn.body = some body /\ ∀ x ∈ l, x ∈ bK body
def Fits (P : Program) : VG -> Prop
 | .code f c _ => lR P f (bK c)
 | .loop f c _ => lR P f (bK c)
 | _ => True
def Tf (P : Program) (env : Env) (X : dF) (h : aQ) (nx : Nat) (q : RR) : VG -> Prop
 | .code f c fr => Ev P env (X.cR P) (.code c fr (bg h) nx q.ex q.fr (bg q.h) q.nx q.ft)
 | .loop f c fr => Ev P env (X.cR P) (.loop c fr (bg h) nx q.ex q.fr (bg q.h) q.nx q.ft)
 | .defs ds => Ev P env (X.cR P) (.defs ds (bg h) nx (bg q.h) q.nx q.ft)
 | .fn dfr f args => Ev P env (X.cR P) (.fn dfr f args (bg h) nx q.r (bg q.h) q.nx q.ft)
def oz (env : Env) (vcs vcs' : List Ob) (J : Prop) : Prop := (∃ new, vcs' = new ++ vcs) /\ ((∀ e ∈ vcs', e.den env) -> J)
theorem gL {env : Env} {vcs : List Ob} (h : fC vcs = true) (hv : ∀ e ∈ vcs, e.den env) : False := by
 unfold fC at h; split at h
 ·have := hv _ (List.mem_cons_self ..); cases (show false = true from this)
 ·cases h
theorem oz.dead {env : Env} {vcs vcs' : List Ob} {J : Prop} (h : fC vcs' = true) (hn : ∃ new, vcs' = new ++ vcs) : oz env vcs vcs' J := ⟨hn, fun hv => (gL h hv).elim⟩
theorem oz.id {env : Env} {vcs : List Ob} {J : Prop} (h : J) : oz env vcs vcs J := ⟨⟨[], rfl⟩, fun _ => h⟩
theorem oz.mono {env : Env} {a b : List Ob} {J K : Prop} (h : oz env a b J) (k : J -> K) : oz env a b K := ⟨h.1, fun hv => k (h.2 hv)⟩
theorem oz.trans {env : Env} {a b c : List Ob} {J K L : Prop} (h : oz env a b J) (k : oz env b c K) (f : J -> K -> L) : oz env a c L := by
 obtain ⟨⟨n1, e1⟩, h⟩ := h; obtain ⟨⟨n2, e2⟩, k⟩ := k; exact ⟨⟨n2 ++ n1, by rw [e2, e1]; simp⟩, fun hv => f (h fun e he => hv e (by rw [e2]; exact List.mem_append_right _ he)) (k hv)⟩
theorem ru : ∀ (L : List Nat) (h : aQ), bg (pn L h) = cI (bg h) L
 | [], h => by funext k; simp [pn, cI]
 | n :: r, h => by
   unfold pn; rw [ru r, th]
   funext k
   unfold cI bf
   by_cases h1 : k ∈ r
   ·simp [h1]
   ·by_cases h2 : k = n
    ·simp [h1, h2]
    ·simp [h1, h2]
theorem sF (D : List Nat) : ∀ (h : aQ), bg (pU h D) = eb (bg h) D
 | [] => by funext k; simp [pU, bg, bZ, eb]
 | (m, o) :: r => by
   have ih := congrFun (sF D r)
   funext k
   have ihk := ih k; unfold pU; cases hm : qm m D with
   | true =>
     simp only [cond_true, ihk]; unfold eb bg; simp only [bZ]
     by_cases hk : k ∈ D
     ·simp [hk]
     ·have hne : Nat.beq m k = false := by
        rw [Bool.eq_false_iff]; intro e; rw [Nat.eq_of_beq_eq_true e] at hm; exact hk (cQ.1 hm)
      simp [hk, hne]
   | false =>
     simp only [cond_false]; unfold eb bg at ihk ⊢; simp only [bZ]; cases he : Nat.beq m k with
     | true =>
       have hk : k ∉ D := by rw [<- Nat.eq_of_beq_eq_true he]; intro h; rw [cQ.2 h] at hm; cases hm
       simp [hk]
     | false => simp [ihk]
theorem E6 (h : aQ) (D : List Nat) : bg (Nb h D) = eb (bg h) D := by
 unfold Nb; cases D with
 | nil => funext k; simp [eb]
 | cons n r => exact sF _ h
theorem mc {h : aQ} : ∀ {L : List Nat} {m : Nat}, m ∈ iE h L -> m ∈ L
 | [], m, hm => by simp [iE] at hm
 | n :: r, m, hm => by
   unfold iE at hm; cases hc : Nl (bZ h n) with
   | true =>
     rw [hc] at hm; simp only [cond_true, List.mem_cons] at hm ⊢; rcases hm with e | e
     ·exact .inl e
     ·exact .inr (mc e)
   | false =>
     rw [hc] at hm; exact List.mem_cons_of_mem _ (mc hm)
theorem wO : ∀ {l : List Oper} {n m : Nat}, m ∈ fM l n -> n <= m /\ m < n + l.length
 | [], n, m, h => by simp [fM] at h
 | o :: r, n, m, h => by
   unfold fM at h
   have hrest : m ∈ fM r (n + 1) -> n <= m /\ m < n + (o :: r).length := fun h => by
    have := wO h; simp only [List.length_cons]; omega
   cases ha : GD o.op with
   | true =>
     rw [ha] at h; simp only [cond_true, List.mem_cons] at h; rcases h with e | e
     ·subst e; simp
     ·exact hrest e
   | false => rw [ha] at h; exact hrest h
theorem nw {env : Env} {fs : aa} {e : E} {b : Bool} (h : (e.den env).B = b) (k : fs.aB env) : aa.aB env ((e, b) :: fs) := fun e' b' hm => by
 rcases List.mem_cons.1 hm with h1 | h1
 ·injection h1 with h1 h2; subst h1; subst h2; exact h
 ·exact k e' b' h1
theorem sK {env : Env} {fs : aa} (hf : fs.aB env) : ∀ {r : aa}, r.aB env -> contra fs r = false
 | [], _ => rfl
 | (e, b) :: r, hr => by
   have ih := sK hf (r := r) fun e b hm => hr e b (List.mem_cons_of_mem _ hm); unfold contra; cases SL e with
   | false => exact ih
   | true =>
     simp only [cond_true]; split
     ·rename_i c hc; have h1 := qM hf hc; have h2 := hr e b (List.mem_cons_self ..); rw [h1] at h2; subst h2; cases c <;> exact ih
     ·exact ih
def gJ {α : Type} (env : Env) (l : List (aa × α)) (Q : α -> Prop) : Prop := ∃ x ∈ l, x.1.aB env /\ Q x.2
theorem gJ.single {α : Type} {env : Env} {fs : aa} {a : α} {Q : α -> Prop} (hf : fs.aB env) (h : Q a) : gJ env [(fs, a)] Q := ⟨_, List.mem_singleton.2 rfl, hf, h⟩
theorem gJ.mono {α : Type} {env : Env} {l : List (aa × α)} {Q R : α -> Prop} (h : gJ env l Q) (k : ∀ a, Q a -> R a) : gJ env l R := by
 obtain ⟨x, h1, h2, h3⟩ := h; exact ⟨x, h1, h2, k _ h3⟩
theorem E2 {α β : Type} {env : Env} {f : aa -> α -> Ps β} {Q : α -> Prop} {R : β -> Prop} (hf : ∀ fs a L, f fs a = .ok L -> fs.aB env -> Q a -> gJ env L R) : ∀ {l : List (aa × α)} {L : List (aa × β)}, Zl f l = .ok L -> gJ env l Q -> gJ env L R
 | [], _, _, ⟨x, hx, _⟩ => by cases hx
 | (fs, a) :: r, L, h, ⟨x, hx, h1, h2⟩ => by
   simp only [Zl] at h; cases hfa : f fs a with
   | error e => rw [hfa] at h; cases h
   | ok y =>
     rw [hfa] at h; simp only at h; cases hg : Zl f r with
     | error e => rw [hg] at h; cases h
     | ok z =>
       rw [hg] at h; simp only at h; injection h with h; subst h; rcases List.mem_cons.1 hx with rfl | hx
       ·obtain ⟨q, q1, q2, q3⟩ := hf _ _ _ hfa h1 h2; exact ⟨q, List.mem_append_left _ q1, q2, q3⟩
       ·obtain ⟨q, q1, q2, q3⟩ := E2 hf hg ⟨x, hx, h1, h2⟩; exact ⟨q, List.mem_append_right _ q1, q2, q3⟩
theorem cy {α β : Type} {env : Env} {p : Ps α} {f : aa -> α -> Ps β} {Q : α -> Prop} {R : β -> Prop} {L : List (aa × β)} (h : fY p f = .ok L) (hp : ∀ l, p = .ok l -> gJ env l Q) (hf : ∀ fs a L, f fs a = .ok L -> fs.aB env -> Q a -> gJ env L R) : gJ env L R := by
 unfold fY at h; cases hpe : p with
 | error e => rw [hpe] at h; cases h
 | ok l => rw [hpe] at h; exact E2 hf h (hp l hpe)
theorem my {env : Env} {e : E} : ∀ {n : Nat} {fs : aa} {l : List (aa × Bool)}, fs.aB env -> lL n fs e = .ok l -> gJ env l fun b => (e.den env).B = b
 | 0, _, _, _, h => by cases h
 | n + 1, fs, l, hf, h => by
   unfold lL at h; cases hd : ck fs e with
   | some b =>
     rw [hd] at h; simp only at h; injection h with h; subst h; exact .single hf (qM hf hd)
   | none =>
     rw [hd] at h; simp only at h; cases h1 : (cond (contra ((ly fs e, true) :: fs) fs) (.ok []) (lL n ((ly fs e, true) :: fs) e) : Ps Bool) with
     | error m => rw [h1] at h; cases h
     | ok a =>
       rw [h1] at h; simp only at h; cases h2 : (cond (contra ((ly fs e, false) :: fs) fs) (.ok []) (lL n ((ly fs e, false) :: fs) e) : Ps Bool) with
       | error m => rw [h2] at h; cases h
       | ok b =>
         rw [h2] at h; simp only at h; injection h with h; subst h; cases hB : ((ly fs e).den env).B with
         | true =>
           rw [sK (nw hB hf) hf] at h1; obtain ⟨x, q1, q2, q3⟩ := my (nw hB hf) h1; exact ⟨x, List.mem_append_left _ q1, q2, q3⟩
         | false =>
           rw [sK (nw hB hf) hf] at h2; obtain ⟨x, q1, q2, q3⟩ := my (nw hB hf) h2; exact ⟨x, List.mem_append_right _ q1, q2, q3⟩
theorem Prog.jW {α : Type} {env : Env} {n : Nat} : ∀ (p : Prog α) {fs : aa} {h : aQ} {vcs : List Ob} {ft : aG} {l : List (aa × YF α)}, fs.aB env ->
    p.p7 n fs h vcs ft = .ok l -> gJ env l fun o => oz env vcs o.vcs (p.Ev env (bg h) o.a (bg o.h) ft o.ft)
 | .ret a, fs, h, vcs, ft, l, hf, hr => by simp only [p7] at hr; injection hr with hr; subst hr; exact .single hf (.id ⟨rfl, rfl, rfl⟩)
 | .fail m, fs, h, vcs, ft, l, hf, hr => by simp only [p7] at hr; cases hr
 | .get m k, fs, h, vcs, ft, l, hf, hr => by
   simp only [p7] at hr; cases hg : bZ h m with
   | none => rw [hg] at hr; cases hr
   | some x =>
     rw [hg] at hr; exact (jW (k x) hf hr).mono fun o ho => ho.mono fun he => ⟨x, hg, he⟩
 | .put m x k, fs, h, vcs, ft, l, hf, hr => by
   simp only [p7] at hr; exact (jW k hf hr).mono fun o ho => ho.mono fun he => by unfold Ev; rw [<- th]; exact he
 | .vc e k, fs, h, vcs, ft, l, hf, hr => by
   simp only [p7] at hr; cases hd : nH fs e with
   | some b =>
     cases b with
     | true =>
       rw [hd] at hr; exact (jW k hf hr).mono fun o ho => ho.mono fun he => ⟨xP hf hd, he⟩
     | false => rw [hd] at hr; cases hr
   | none =>
     rw [hd] at hr; refine (jW k hf hr).mono fun o ho => ?_; obtain ⟨⟨new, h1⟩, h2⟩ := ho; exact ⟨⟨new ++ [e], by rw [h1]; simp⟩, fun hv => ⟨hv e (by rw [h1]; simp), h2 hv⟩⟩
 | .dec e k, fs, h, vcs, ft, l, hf, hr => by
   simp only [p7] at hr; cases hs : lL n fs e with
   | error m => rw [hs] at hr; cases hr
   | ok bs =>
     rw [hs] at hr; refine E2 (fun fs' b L hL hf' hb => ?_) hr (my hf hs)
     exact (jW (k b) hf' hL).mono fun o ho => ho.mono fun he => by
      unfold Ev; rw [hb]; exact he
theorem Nr {env : Env} {fs : aa} {n : Nat} (hf : fs.aB env) {ops : Array Oper} {sl : List SV} {o : Oper} {l : List (aa × Bool)} (h : Kw n fs ops.toList sl o = .ok l) : gJ env l fun b => mM env ops sl o = some b := by
 unfold Kw at h; unfold mM; cases hg : o.guard with
 | none => rw [hg] at h; simp only at h; injection h with h; subst h; exact .single hf rfl
 | some q =>
   obtain ⟨j, want⟩ := q; rw [hg] at h; simp only [s4, Array.getElem?_toList] at h ⊢; cases hd : (ops[j]?).bind (·.dst) with
   | none => rw [hd] at h; cases h
   | some d =>
     rw [hd] at h; simp only at h ⊢; cases hs : sl[d]? with
     | none => rw [hs] at h; cases h
     | some x =>
       rw [hs] at h; cases x with
       | bool e =>
         simp only at h ⊢; refine cy h (fun l hl => my hf hl) fun fs' b L hL hf' hb => ?_; injection hL with hL; subst hL; refine .single hf' ?_; rw [hb]; cases b <;> cases want <;> rfl
       | fq l =>
         cases l with
         | nil => injection h with h; subst h; exact .single hf rfl
         | cons a l => cases h
       | _ => cases h
section
variable {P : Program} {env : Env} {X : dF} {n : Nat}
def NK (P : Program) (env : Env) (X : dF) (rec : Rec) : Prop :=
 ∀ cmd fs h nx vcs l, Fits P cmd -> fs.aB env -> rec cmd fs h nx vcs = .ok l -> gJ env l fun q => oz env vcs q.vcs (Tf P env X h nx q cmd)
def F4 (P : Program) (env : Env) (X : dF) (call : Call) : Prop :=
 ∀ fs f args h nx vcs l, fs.aB env -> call fs f args h nx vcs = .ok l -> gJ env l fun q => oz env vcs q.vcs (Ev P env (X.cR P) (.fn false f args (bg h) nx q.r (bg q.h) q.nx q.ft))
theorem LX {call : Call} (hc : F4 P env X call) {ops : Array Oper} {base i : Nat} {o : Oper} (ho : ops[i]? = some o)
    {die : Bool} {fs : aa} (hf : fs.aB env) {fr : Fr} {h : aQ} {nx : Nat} {vcs : List Ob} {l : List (aa × GN)} (hr : M8 P n die call ops.toList (base + i) o fs fr h nx vcs = .ok l) :
    gJ env l fun q => oz env vcs q.vcs (Ev P env (X.cR P) (.op ops base i fr (bg h) nx q.fr (bg q.h) q.nx q.cl q.ft)) := by
 unfold M8 at hr; refine cy hr (fun l hl => Nr hf hl) fun fs' b L hL hf' hwant => ?_; cases b with
 | false =>
   simp only at hL; injection hL with hL; subst hL; exact .single hf' (.id (.A8 ho hwant))
 | true =>
   simp only at hL
   have hdead : ∀ {fs2 : aa} {fr2 : Fr} {h2 : aQ} {nx2 : Nat} {L2 : List (aa × GN)}, (Except.ok [(fs2, ⟨fr2, h2, nx2, .e (.bl false) :: vcs, aG.nil, false⟩)] : Ps GN) = .ok L2 -> fs2.aB env ->
       gJ env L2 fun q => oz env vcs q.vcs (Ev P env (X.cR P) (.op ops base i fr (bg h) nx q.fr (bg q.h) q.nx q.cl q.ft)) := fun e hf => by
    injection e with e; subst e; exact .single hf (.dead rfl ⟨[_], rfl⟩)
   cases hpa : HW o.op with
   | true => rw [hpa] at hL; exact hdead hL hf'
   | false =>
   rw [hpa, cond_false] at hL; unfold Ls at hL; split at hL
   ·cases die with
    | true => exact hdead hL hf'
    | false => cases hL
   refine cy hL (fun l hl => Prog.jW _ hf' hl) fun fs2 z L2 hL2 hf2 hev => ?_; obtain ⟨za, zh, zv, zf⟩ := z; simp only at hL2 hev; cases za with
   | val v =>
     simp only at hL2; injection hL2 with hL2; subst hL2; exact .single hf2 (hev.mono fun he => .Gz ho hwant he)
   | skip =>
     simp only at hL2; injection hL2 with hL2; subst hL2; exact .single hf2 (hev.mono fun he => .Ac ho hwant he)
   | defer fn cap args =>
     cases fn with
     | func g =>
       simp only at hL2; injection hL2 with hL2; subst hL2; exact .single hf2 (hev.mono fun he => .vj ho hwant he)
     | _ => cases hL2
   | call g args =>
     simp only at hL2; refine cy hL2 (fun l hl => hc _ _ _ _ _ _ _ hf2 hl) fun fs3 rr L3 hL3 hf3 hk => ?_; injection hL3 with hL3; subst hL3; exact .single hf3 (hev.trans hk fun he hk => .Bh ho hwant he hk)
theorem zS {call : Call} (hc : F4 P env X call) {ops : Array Oper} {base : Nat} : ∀ (r : List Oper) (i : Nat),
    (∀ k, ops[i + k]? = r[k]?) -> ∀ {die : Bool} {fs : aa} {fr : Fr} {h : aQ} {nx : Nat} {vcs : List Ob} {l : List (aa × MO)}, fs.aB env -> xa P n die call ops.toList r (base + i) fs fr h nx vcs = .ok l ->
    gJ env l fun z => oz env vcs z.vcs (z.log.length = r.length /\ ∃ (S : Nat -> Fr) (H : Nat -> aL) (N : Nat -> Nat), S i = fr /\ H i = bg h /\ N i = nx /\ S (i + r.length) = z.fr /\ H (i + r.length) = bg z.h /\ N (i + r.length) = z.nx /\
     ∀ k, k < r.length -> Ev P env (X.cR P) (.op ops base (i + k) (S (i + k)) (H (i + k)) (N (i + k)) (S (i + k + 1)) (H (i + k + 1)) (N (i + k + 1)) (uP z.log k) (oF z.log k)))
 | [], i, _, die, fs, fr, h, nx, vcs, l, hf, hr => by
   simp only [xa] at hr; injection hr with hr; subst hr; exact .single hf (.id ⟨rfl, fun _ => fr, fun _ => bg h, fun _ => nx, rfl, rfl, rfl, rfl, rfl, rfl, fun k hk => by simp at hk⟩)
 | o :: r, i, hat, die, fs, fr, h, nx, vcs, l, hf, hr => by
   simp only [xa] at hr; have h0 := hat 0; simp only [Nat.add_zero, List.getElem?_cons_zero] at h0; refine cy hr (fun l hl => LX hc h0 hf hl) fun B8 q L1 hL1 hf1 hop => ?_; cases hd1 : fC q.vcs with
   | true =>
     rw [hd1] at hL1; injection hL1 with hL1; subst hL1; exact .single hf1 (.dead hd1 hop.1)
   | false =>
   rw [hd1, cond_false] at hL1; refine cy hL1 (fun l hl => zS hc (base := base) r (i + 1) (fun k => by have := hat (k + 1); simpa [Nat.add_assoc, Nat.add_comm 1 k] using this) hf1 hl) fun fs2 y L2 hL2 hf2 ih => ?_
   cases hd2 : fC y.vcs with
   | true =>
     rw [hd2] at hL2; injection hL2 with hL2; subst hL2; exact .single hf2 (.dead hd2 (hop.trans ih And.intro).1)
   | false =>
   rw [hd2] at hL2; injection hL2 with hL2; subst hL2; refine .single hf2 (hop.trans ih ?_); rintro hop ⟨hlen, S, H, N, e1, e2, e3, e4, e5, e6, cJ⟩; refine ⟨by simp [hlen], fun j => if j = i then fr else S j, fun j => if j = i then bg h else H j, fun j => if j = i then nx else N j, by simp, by simp, by simp, ?_, ?_, ?_, ?_⟩
   ·have : i + (o :: r).length = i + 1 + r.length := by simp; omega
    rw [this]; simp only [if_neg (show ¬(i + 1 + r.length = i) by omega)]; exact e4
   ·have : i + (o :: r).length = i + 1 + r.length := by simp; omega
    rw [this]; simp only [if_neg (show ¬(i + 1 + r.length = i) by omega)]; exact e5
   ·have : i + (o :: r).length = i + 1 + r.length := by simp; omega
    rw [this]; simp only [if_neg (show ¬(i + 1 + r.length = i) by omega)]; exact e6
   ·intro k hk; cases k with
    | zero =>
      simp only [Nat.add_zero, if_true, if_neg (show ¬(i + 1 = i) by omega)]
      rw [e1, e2, e3]; exact hop
    | succ k =>
      have := cJ k (by simpa using hk)
      simp only [if_neg (show ¬(i + (k + 1) = i) by omega), if_neg (show ¬(i + (k + 1) + 1 = i) by omega)]
      have ea : i + 1 + k = i + (k + 1) := by omega
      rw [ea] at this; exact this
theorem y7 : ∀ (log : List (aG × Bool)) (n : Nat), n = log.length -> (log.flatMap (·.1.rd) = (aG.sum (oF log) n).rd /\ log.flatMap (·.1.wr) = (aG.sum (oF log) n).wr)
 | [], n, h => by subst h; simp [aG.sum]
 | x :: r, n, h => by
   subst h; have ih := y7 r r.length rfl; simp only [aG.sum, List.length_cons] at ih ⊢; have hs : List.range (r.length + 1) = 0 :: (List.range r.length).map (· + 1) := by rw [List.range_succ_eq_map]
   rw [hs]; simp only [List.flatMap_cons, List.flatMap_map]; have e0 : oF (x :: r) 0 = x.1 := rfl; have ek : ∀ k, oF (x :: r) (k + 1) = oF r k := fun k => rfl; simp only [e0, ek]; exact ⟨by rw [<- ih.1], by rw [<- ih.2]⟩
theorem tx : ∀ {l acc : List Nat} {n : Nat}, n ∈ dedup l acc ↔ n ∈ l \/ n ∈ acc
 | [], acc, n => by simp [dedup]
 | a :: l, acc, n => by
   unfold dedup; rw [tx]; unfold Z5; cases h : qm a acc with
   | true =>
     have := cQ.1 h; simp only [cond_true, List.mem_cons]; constructor
     ·rintro (h | h)
      ·exact .inl (.inr h)
      ·exact .inr h
     ·rintro ((h | h) | h)
      ·subst h; exact .inr this
      ·exact .inl h
      ·exact .inr h
   | false =>
     simp only [cond_false, List.mem_cons]; constructor
     ·rintro (h | h | h)
      ·exact .inl (.inr h)
      ·exact .inl (.inl h)
      ·exact .inr h
     ·rintro ((h | h) | h)
      ·exact .inr (.inl h)
      ·exact .inl h
      ·exact .inr (.inr h)
theorem aG.Jf (F : aG) : F.jI F.tidy := ⟨fun n hn => by simp only [aG.tidy, tx]; exact .inl hn, fun n => by simp [aG.tidy, tx]⟩
theorem lR.sub {f : FuncId} {a b : List (Nat × Code)} (h : lR P f b) (hs : ∀ x ∈ a, x ∈ b) : lR P f a := by
 obtain ⟨fn, body, h1, h2, h3⟩ := h; exact ⟨fn, body, h1, h2, fun x hx => h3 x (hs x hx)⟩
theorem xY : ∀ {log : List (aG × Bool)} {k i : Nat} {F : aG} {c : Bool}, log[i]? = some (F, c) -> mY F c = false -> (k + i, F, c) ∈ nP log k
 | [], _, _, _, _, h, _ => by simp at h
 | (G, d) :: r, k, 0, F, c, h, hq => by
   simp only [List.getElem?_cons_zero, Option.some.injEq, Prod.mk.injEq] at h; obtain ⟨rfl, rfl⟩ := h; unfold nP; rw [hq]; exact List.mem_cons_self ..
 | (G, d) :: r, k, i + 1, F, c, h, hq => by
   have := xY (k := k + 1) (log := r) (i := i) (by simpa using h) hq
   rw [show k + 1 + i = k + (i + 1) by omega] at this
   unfold nP; cases mY G d with
   | true => exact this
   | false => exact List.mem_cons_of_mem _ this
theorem xp : ∀ {log : List (aG × Bool)} {k : Nat} {x : Nat × aG × Bool}, x ∈ nP log k -> k <= x.1
 | [], _, _, h => by cases h
 | (G, d) :: r, k, x, h => by
   unfold nP at h; cases hq : mY G d with
   | true => rw [hq] at h; have := xp (log := r) h; omega
   | false =>
     rw [hq] at h; rcases List.mem_cons.1 h with rfl | h
     ·exact Nat.le_refl _
     ·have := xp (log := r) h; omega
theorem oa {ms : List Nat} : ∀ {log : List (aG × Bool)} {k : Nat}, AU ms (nP log k) = true -> ∀ {x y : Nat × aG × Bool}, x ∈ nP log k -> y ∈ nP log k -> x.1 < y.1 -> Nat.testBit (ms.getD y.1 0) x.1 = true \/ uw x.2.1 y.2.1 x.2.2 y.2.2 = true
 | [], _, _, x, _, hx, _, _ => by cases hx
 | (G, d) :: r, k, h, x, y, hx, hy, cW => by
   unfold nP at h hx hy; cases hq : mY G d with
   | true => rw [hq] at h hx hy; exact oa (log := r) h hx hy cW
   | false =>
     rw [hq] at h hx hy; simp only [cond_false, AU, Bool.and_eq_true] at h; rcases List.mem_cons.1 hx with rfl | hx
     ·rcases List.mem_cons.1 hy with rfl | hy
      ·exact absurd cW (Nat.lt_irrefl _)
      ·have := List.all_eq_true.1 h.1 y hy; simp only at this ⊢; cases ht : Nat.testBit (ms.getD y.1 0) k with
       | true => exact .inl rfl
       | false => rw [ht] at this; exact .inr this
     ·rcases List.mem_cons.1 hy with rfl | hy
      ·have := xp hx; simp only at cW; omega
      ·exact oa (log := r) h.2 hx hy cW
theorem Gc {a : List Nat} : lY a [] = true := by unfold lY qm; simp
theorem E7 {ops : Array Oper} {log : List (aG × Bool)} (h : vi ops log = true) : ox ops (oF log) (uP log) = true := by
 unfold vi at h; rw [Bool.and_eq_true] at h; obtain ⟨h1, h2⟩ := h; unfold Sz at h1; rw [Bool.and_eq_true] at h1; obtain ⟨h0, h1⟩ := h1; unfold ox; rw [Bool.and_eq_true]; refine ⟨h0, List.all_eq_true.2 fun j hj => List.all_eq_true.2 fun i hi => ?_⟩; have hs := List.all_eq_true.1 (List.all_eq_true.1 h1 j hj) i hi; have hij : i < j := List.mem_range.1 hi; unfold FF; cases hoi : ops[i]? with
 | none => rfl
 | some oi =>
   cases hoj : ops[j]? with
   | none => rfl
   | some oj =>
     rw [hoi, hoj] at hs; simp only at hs ⊢; cases ht : Nat.testBit ((wu ops).getD j 0) i with
     | true => rfl
     | false =>
       rw [ht] at hs; simp only [Bool.false_or] at hs; show (!jN ops oi oj (oF log i) (oF log j) (uP log i) (uP log j)) = true
       have calm : uw (oF log i) (oF log j) (uP log i) (uP log j) = true := by
        have get : ∀ k, (oF log k = aG.nil /\ uP log k = false) \/ log[k]? = some (oF log k, uP log k) := fun k => by
         unfold oF uP; rw [s4]; cases log[k]? with
         | none => exact .inl ⟨rfl, rfl⟩
         | some x => exact .inr rfl
        have quiet : ∀ {F : aG} {c : Bool}, mY F c = true -> F = aG.nil /\ c = false := by
         intro F c hq; simp only [mY, Bool.and_eq_true, List.isEmpty_iff, Bool.not_eq_true'] at hq; obtain ⟨⟨a, b⟩, c⟩ := hq; refine ⟨?_, c⟩; cases F; simp only at a b; subst a; subst b; rfl
        have leftN : ∀ {F : aG} {c : Bool}, uw aG.nil F false c = true := by intro F c; unfold uw aG.nil; simp [lY]
        have rightN : ∀ {F : aG} {c : Bool}, uw F aG.nil c false = true := by intro F c; unfold uw aG.nil; simp [Gc]
        have ci := get i; have cj := get j; rcases ci with ⟨a, b⟩ | ci
        ·rw [a, b]; exact leftN
        ·rcases cj with ⟨a, b⟩ | cj
         ·rw [a, b]; exact rightN
         ·cases qi : mY (oF log i) (uP log i) with
          | true => obtain ⟨a, b⟩ := quiet qi; rw [a, b]; exact leftN
          | false =>
            cases qj : mY (oF log j) (uP log j) with
            | true => obtain ⟨a, b⟩ := quiet qj; rw [a, b]; exact rightN
            | false =>
              have mi := xY (k := 0) ci qi; have mj := xY (k := 0) cj qj; rw [Nat.zero_add] at mi mj; rcases oa h2 mi mj hij with h | h
              ·simp only at h; rw [ht] at h; cases h
              ·exact h
       unfold jN; unfold uw at calm; simp only [Bool.and_eq_true] at calm; obtain ⟨⟨⟨a, b⟩, c⟩, d⟩ := calm; rw [hs, a, b, c]; simpa using d
theorem Jo {ex : eI} (h : leaves ex = true) : ex = .normal \/ ex = .ret := by
 cases ex <;> simp [leaves] at h ⊢
theorem EK {rc : Rec} (hr : NK P env X rc) : NK P env X (eY P n X rc) := by
 have hcall : F4 P env X (fun fs g args h nx vcs => rc (.fn false g args) fs h nx vcs) := fun fs f args h nx vcs l hf hq => hr (.fn false f args) fs h nx vcs l trivial hf hq; intro cmd fs h nx vcs l hfit hf hq
 have one : ∀ {fs' : aa} {q : RR} {L : List (aa × RR)} {Q : RR -> Prop}, (Except.ok [(fs', q)] : Ps RR) = .ok L -> fs'.aB env -> Q q -> gJ env L Q := by
  intro fs' q L Q h hf hQ; injection h with h; subst h; exact .single hf hQ
 cases cmd with
 | code f c fr =>
   simp only [Fits] at hfit; cases c with
   | skip => simp only [eY] at hq; exact one hq hf (.id .skip)
   | label l => simp only [eY] at hq; exact one hq hf (.id .label)
   | ret => simp only [eY] at hq; exact one hq hf (.id .ret)
   | exit id => simp only [eY] at hq; exact one hq hf (.id .exit)
   | seq a b =>
     simp only [eY] at hq; refine cy hq (fun l hl => hr _ fs h nx vcs l (show Fits P (.code f a fr) from hfit.sub fun x hx => List.mem_append_left _ hx) hf hl) fun B8 y L1 hL1 hf1 j1 => ?_; obtain ⟨yex, yfr, yr, yh, ynx, yvcs, yft⟩ := y; simp only at hL1; cases yex with
     | normal =>
       simp only at hL1; refine cy hL1 (fun l hl => hr _ B8 yh ynx yvcs l (show Fits P (.code f b yfr) from hfit.sub fun x hx => List.mem_append_right _ hx) hf1 hl) fun fs2 z L2 hL2 hf2 j2 => ?_; exact one hL2 hf2 (j1.trans j2 fun a b => .Qg a b)
     | _ => exact one hL1 hf1 (j1.mono fun a => .PV (by intro e; cases e) a)
   | cond x a b =>
     simp only [eY] at hq; cases hx : ff fr.sl x with
     | none => rw [hx] at hq; cases hq
     | some v =>
       rw [hx] at hq; cases v with
       | bool e =>
         simp only at hq; refine cy hq (fun l hl => my hf hl) fun B8 t L1 hL1 hf1 ht => ?_; cases t with
         | true =>
           simp only at hL1; refine (hr _ B8 h nx vcs L1 (show Fits P (.code f a fr) from hfit.sub fun x hx => List.mem_append_left _ hx) hf1 hL1).mono fun q hq => hq.mono fun j => .cond hx ?_; rw [if_pos ht]; exact j
         | false =>
           simp only at hL1; refine (hr _ B8 h nx vcs L1 (show Fits P (.code f b fr) from hfit.sub fun x hx => List.mem_append_right _ hx) hf1 hL1).mono fun q hq => hq.mono fun j => .cond hx ?_; rw [if_neg (by rw [ht]; simp)]; exact j
       | _ => cases hq
   | block id a =>
     simp only [eY] at hq; refine cy hq (fun l hl => hr _ fs h nx vcs l (show Fits P (.code f a fr) from hfit) hf hl) fun B8 y L1 hL1 hf1 j1 => ?_; obtain ⟨yex, yfr, yr, yh, ynx, yvcs, yft⟩ := y; simp only at hL1; cases hi : BL id yex with
     | true =>
       rw [hi] at hL1; refine one hL1 hf1 (j1.mono fun j => .zZ ?_); cases yex <;> simp [BL] at hi; subst hi; exact j
     | false =>
       rw [hi] at hL1; exact one hL1 hf1 (j1.mono fun j => .block (by intro e; simp only at e; subst e; simp [BL] at hi) j)
   | loop a =>
     simp only [eY] at hq; cases hl : X.lp f ((keyOf a).getD 0) fr nx h with
     | none =>
       rw [hl] at hq; exact (hr _ fs h nx vcs l (show Fits P (.loop f a fr) from hfit.sub fun x hx => List.mem_cons_of_mem _ hx) hf hq).mono fun q hq => hq.mono fun j => .loop j
     | some p =>
       rw [hl] at hq; simp only at hq; refine cy hq (fun l hl => Prog.jW _ hf hl) fun B8 z L1 hL1 hf1 hev => ?_; obtain ⟨⟨ex, fr', nx'⟩, zh, zv, zf⟩ := z; simp only at hL1 hev; obtain ⟨fn, body, h1, h2, h3⟩ := hfit; exact one hL1 hf1 (hev.mono fun he => .R2 (p := p) ⟨f, fn, body, _, _, h1, h2, h3 _ (List.mem_cons_self ..), hl⟩ he)
   | region id ops draw =>
     simp only [eY] at hq; refine cy hq (fun l hl => zS (env := env) (X := X) hcall (ops := ops) (base := nx) ops.toList 0 (fun k => by simp) hf hl) fun B8 z L1 hL1 hf1 hops => ?_
     cases hdz : fC z.vcs with
     | true => rw [hdz] at hL1; exact one hL1 hf1 (.dead hdz hops.1)
     | false =>
     rw [hdz, cond_false] at hL1; cases hmx : Nat.ble (nx + ops.toList.length) 500000 with
     | false => rw [hmx] at hL1; cases hL1
     | true =>
     rw [hmx] at hL1; simp only [cond_true] at hL1; have hmx := Nat.le_of_ble_eq_true hmx; cases hd : (cond draw (vi ops z.log) true) with
     | false => rw [hd] at hL1; cases hL1
     | true =>
       rw [hd] at hL1; refine one hL1 hf1 (hops.mono ?_); rintro ⟨hlen, S, H, N, e1, e2, e3, e4, e5, e6, cJ⟩; have hsz : ops.toList.length = ops.size := Array.length_toList; rw [hsz] at hlen e3 e4 e5 e6 cJ; simp only [Nat.zero_add] at e4 e5 e6 cJ; have hsum := y7 z.log ops.size hlen.symm
       have ev := Ev.region (P := P) (env := env) (X := X.cR P) (id := id) (ops := ops) (draw := draw) (h := bg h) (nx := nx) (L := fM ops.toList nx) (D := iE z.h (fM ops.toList nx))
        S H N (oF z.log) (uP z.log) (fun m hm => by have := wO hm; rw [hsz] at this; exact this) (by rw [<- hsz]; exact hmx) (fun m hm => mc hm)
        (by rw [e2, ru]) e3 (fun i hi => cJ i hi) (fun hdr => by rw [hdr] at hd; exact E7 hd)
       rw [e1, e4, e5, e6, <- hsum.1, <- hsum.2, <- E6] at ev; exact ev
   | _ => simp only [eY] at hq; cases hq
 | loop f c fr =>
   simp only [Fits] at hfit; simp only [eY] at hq; refine cy hq (fun l hl => hr _ fs h nx vcs l (show Fits P (.code f c fr) from hfit) hf hl) fun B8 y L1 hL1 hf1 j1 => ?_; obtain ⟨yex, yfr, yr, yh, ynx, yvcs, yft⟩ := y; simp only at hL1; cases yex with
   | normal =>
     simp only at hL1; refine cy hL1 (fun l hl => hr _ B8 yh ynx yvcs l (show Fits P (.loop f c yfr) from hfit) hf1 hl) fun fs2 z L2 hL2 hf2 j2 => ?_; exact one hL2 hf2 (j1.trans j2 fun a b => .Ha a b)
   | _ => exact one hL1 hf1 (j1.mono fun a => .Hv (by intro e; cases e) a)
 | defs ds =>
   simp only [eY] at hq; cases ds with
   | nil => simp only at hq; exact one hq hf (.id .QP)
   | cons d ds =>
     obtain ⟨g, args⟩ := d; simp only at hq; refine cy hq (fun l hl => hr (.fn true g args) fs h nx vcs l trivial hf hl) fun B8 y L1 hL1 hf1 j1 => ?_; cases hdy : fC y.vcs with
     | true => rw [hdy] at hL1; exact one hL1 hf1 (.dead hdy j1.1)
     | false =>
     rw [hdy, cond_false] at hL1; refine cy hL1 (fun l hl => hr (.defs ds) B8 y.h y.nx y.vcs l trivial hf1 hl) fun fs2 z L2 hL2 hf2 j2 => ?_; exact one hL2 hf2 (j1.trans j2 fun a b => .RY a b)
 | fn dfr f args =>
   simp only [eY] at hq; cases hx : (cond dfr none (X.fn f args nx)) with
   | some p =>
     rw [hx] at hq; simp only at hq; cases dfr with
     | true => cases hx
     | false =>
       refine cy hq (fun l hl => Prog.jW _ hf hl) fun B8 z L1 hL1 hf1 hev => ?_; obtain ⟨⟨r, nx'⟩, zh, zv, zf⟩ := z; simp only at hL1 hev; exact one hL1 hf1 (hev.mono fun he => .ext (p := p) hx he)
   | none =>
     rw [hx] at hq; simp only at hq; cases hfn : P.funcs[f]? with
     | none => rw [hfn] at hq; cases hq
     | some fn =>
       rw [hfn] at hq; simp only at hq; cases hb : fn.body with
       | none => rw [hb] at hq; cases hq
       | some c =>
         rw [hb] at hq; simp only at hq; cases hle : Nat.ble args.length fn.ntmps with
         | false => rw [hle] at hq; cases hq
         | true =>
           rw [hle] at hq; simp only [cond_true] at hq; refine cy hq (fun l hl => hr _ fs h nx vcs l (show Fits P (.code f c _) from ⟨fn, c, hfn, hb, fun x hx => hx⟩) hf hl) fun B8 y L1 hL1 hf1 j1 => ?_; cases hdy : fC y.vcs with
           | true => rw [hdy] at hL1; exact one hL1 hf1 (.dead hdy j1.1)
           | false =>
           rw [hdy, cond_false] at hL1; cases hlv : (leaves y.ex && cond dfr (y.fr.df.isEmpty) true) with
           | false => rw [hlv] at hL1; cases hL1
           | true =>
             rw [hlv] at hL1; simp only [cond_true] at hL1; rw [Bool.and_eq_true] at hlv; refine cy hL1 (fun l hl => hr (.defs y.fr.df) B8 y.h y.nx y.vcs l trivial hf1 hl) fun fs2 z L2 hL2 hf2 j2 => ?_; cases hdz : fC z.vcs with
             | true => rw [hdz] at hL2; exact one hL2 hf2 (.dead hdz (j1.trans j2 And.intro).1)
             | false =>
             rw [hdz, cond_false] at hL2; refine cy hL2 (fun l hl => Prog.jW _ hf2 hl) fun fs3 x L3 hL3 hf3 j3 => ?_; cases hw : x.ft.wr.isEmpty with
             | false => rw [hw] at hL3; cases hL3
             | true =>
               rw [hw] at hL3; simp only [cond_true] at hL3; refine one hL3 hf3 ((j1.trans j2 And.intro).trans j3 ?_); rintro ⟨a, b⟩ c3; have hwr : x.ft.wr = [] := by simpa using hw
               have hsame : bg x.h = bg z.h := by
                funext n
                have := (eD c3).1 n (by rw [hwr]; simp)
                exact this
               rw [hsame] at c3
               have ev := Ev.fn (X := X.cR P) (dfr := dfr) (D := []) (F := ((y.ft.add z.ft).add x.ft).tidy) hfn hb (Nat.le_of_ble_eq_true hle) a (Jo hlv.1)
                (fun hd => by rw [hd] at hlv; simpa using hlv.2) b c3 hwr (fun m hm => by cases hm) (fun m hm => by cases hm) (aG.Jf _)
               have hd0 : eb (bg z.h) [] = bg z.h := by funext n; simp [eb]
               rw [hd0] at ev; exact ev
theorem MI : ∀ k, NK P env X (run P n X k)
 | 0 => fun cmd fs h nx vcs l _ _ hq => by cases hq
 | k + 1 => EK (MI k)
end
def bR.rr (l : bR) (ft : aG) : RR := ⟨l.ex, l.fr, l.r, l.h, l.nx, l.vcs, ft⟩
theorem aa.fh {env : Env} {fs : aa} {e : E} {b : Bool} (h : (e.den env).B = b) (k : fs.aB env) : aa.aB env ((e, b) :: fs) := fun e' b' hm => by
 rcases List.mem_cons.1 hm with h1 | h1
 ·injection h1 with h1 h2; subst h1; subst h2; exact h
 ·exact k e' b' h1
theorem xA {P : Program} {env : Env} {X : dF} {fuel : Nat} {cmd : VG} {h : aQ} {nx : Nat} (hfit : Fits P cmd) (n : Nat) {fs : aa} {l : List bR} (hf : fs.aB env)
    (he : explore P X fuel cmd h nx n fs = .ok l) : ∃ f ∈ l, f.fs.aB env /\ ((∀ e ∈ f.vcs, e.den env) -> ∃ ft, Tf P env X h nx (f.rr ft) cmd) := by
 unfold explore at he; cases hr : run P n X fuel cmd fs h nx [] with
 | error e => rw [hr] at he; cases he
 | ok L =>
   rw [hr] at he; simp only at he; injection he with he; subst he; obtain ⟨x, hx, h1, h2⟩ := MI (P := P) (env := env) (X := X) (n := n) fuel cmd fs h nx [] L hfit hf hr; exact ⟨_, List.mem_map.2 ⟨x, hx, rfl⟩, h1, fun hv => ⟨x.2.ft, h2.2 hv⟩⟩
theorem mN {P : Program} {env : Env} {X : dF} {w0 : Anchor} (hP : Plain P) (hM : P.follows .mixedOrders = true) (hX : eJ P env w0 (X.cR P)) {fuel n : Nat} {f : FuncId} {args : List SV} {h : aQ} {nx : Nat} {fs : aa} {l : List bR}
    (he : explore P X fuel (.fn false f args) h nx n fs = .ok l) (hf : fs.aB env) (hv : ∀ q ∈ l, q.fs.aB env -> ∀ e ∈ q.vcs, e.den env)
    {ρ : af} {w : World} {vs : List Value} (hs : az env w0 ρ (bg h) w) (hn : ∀ n p, ρ n = some p -> n < nx) (ha : SV.aD env ρ args vs) :
    Calls P f vs.toArray w fun e w' => ∃ q ∈ l, q.fs.aB env /\ IN env w0 ρ q.r (bg q.h) q.nx e w' := by
 obtain ⟨q, hq, hqf, hj⟩ := xA (P := P) (env := env) (cmd := .fn false f args) trivial n hf he; obtain ⟨ft, hj⟩ := hj (hv q hq hqf); have hs' := (Ev.sound hP hM hX hj).2 (bg h) (fun _ _ => rfl) ρ w vs hs hn ha; refine hs'.1.mono fun e w' hp => ⟨q, hq, hqf, ?_⟩
 have e2 : mv (bg h) (bg q.h) ft = bg q.h := by
  funext n
  unfold mv
  by_cases hm : n ∈ ft.wr
  ·rw [if_pos hm]
  ·rw [if_neg hm]; exact (hj.loc.1 n hm).symm
 have hp' : IN env w0 ρ q.r (mv (bg h) (bg q.h) ft) q.nx e w' := hp; rw [e2] at hp'; exact hp'
section
open Go.ChangeShapes Go.WideShapes Go.ChangeAt
variable {H : Type} {enc : TypeId × Value -> H} {P : Program}
theorem qo (hl : laidOutB P = true) {W W' : World} (hb : Below W.heap.size W W') : ∀ {ts : List TypeId} {vs : List Value} {ds : List (DataW H)} {ps : List MemPlace},
    (∀ t ∈ ts, P.readableRec t = true /\ t < P.types.size) -> (∀ p ∈ ps, p.block < W.heap.size) -> DataW.TrodAll enc P W 0 (fun _ => true) true ts vs ds ps ->
    DataW.TrodAll enc P W' 0 (fun b => decide (b < W.heap.size)) true ts vs ds ps
 | [], [], [], _, _, _, h => h
 | t :: ts, v :: vs, d :: ds, ps, ht, hp, ⟨p, q, h1, h2, e⟩ => by
   subst e
   exact ⟨p, q, Below.trod hl (ht t (List.mem_cons_self ..)).1 (ht t (List.mem_cons_self ..)).2 h1 hb (fun x hx => hp x (List.mem_append_left _ hx)),
    qo hl hb (fun t ht' => ht t (List.mem_cons_of_mem _ ht')) (fun x hx => hp x (List.mem_append_right _ hx)) h2, rfl⟩
 | [], _ :: _, _, _, _, _, h => h.elim
 | [], [], _ :: _, _, _, _, h => h.elim
 | _ :: _, [], _, _, _, _, h => h.elim
 | _ :: _, _ :: _, [], _, _, _, h => h.elim
theorem K4 {f : Func} {s : ChangeSpec} {W W' : World} {args : Array Value} {ds gs : List (DataW H)} {before : List MemPlace} {tb : TypeId}
    (hW : DataW.Whole enc P f.params.toList s.vars false W args.toList ds gs before) (hvars : s.vars = []) (hfn : s.fn H ds = { results := [.lit (.bool true)], args := ds })
    (hres : f.resultTypes = #[tb]) (htb : P.underlying tb = some .bool) (hl : laidOutB P = true) (hp : ∀ t ∈ f.params.toList, P.readableRec t = true /\ t < P.types.size) (hb : Below W.heap.size W W') :
    s.post enc P f false true false false W args (.bool true) W' := by
 have cW := hW.lt; have hW' := hW; obtain ⟨p, q, hA, hV, rfl, hfz, hnd⟩ := hW; rw [hvars] at hV; obtain ⟨rfl, rfl⟩ := trodVars_none hV; refine ⟨ds, [], p ++ [], [], p, [], hW', ?_, ?_, ?_, hb.frame _, fun h => by cases h⟩
 ·rw [hres, List.append_nil, hfn]; exact trodAll_cons_mk (shut_bool htb _) trodAll_mk0
 ·rw [List.append_nil, hfn]; exact qo hl hb hp (fun x hx => cW x (List.mem_append_left _ hx)) hA
 ·rw [List.append_nil, hfn, hvars]; rfl
end
def xM (w : World) : Fz := ⟨fun b => w.heap[b]?, fun _ _ => none⟩
def dv : Value -> Dv
 | .int _ n => .i n
 | .bool b => .b b
 | .string s => .s s
 | _ => .i 0
mutual
def DK.rd (w : World) : DK -> Value -> Dv
 | .sl ks, .slice (some a) len _ => .t ((List.range len).map fun i => ks.rd w (fun j => (w.cell? ⟨a.block, a.off + i * ks.len + j, none⟩).getD .nilIface) 0)
 | .sl _, _ => .t []
 | .int _, v => dv v
 | .bool, v => dv v
 | .str, v => dv v
 | .fp _, _ => .i 0
 | .eh _ _, _ => .i 0
 | .nilm, _ => .i 0
 | .ap _, _ => .i 0
def aJ.rd (w : World) : aJ -> (Nat -> Value) -> Nat -> List Dv
 | .nil, _, _ => []
 | .cons k r, cell, j => k.rd w (cell j) :: r.rd w cell (j + 1)
end
mutual
def DK.okV (w : World) : DK -> Value -> Prop
 | .int k, v => ∃ n, v = .int k n /\ xz k <= n /\ n <= vN k
 | .bool, v => ∃ b, v = .bool b
 | .str, v => ∃ s : ByteArray, v = .string s /\ s.size <= maxLen
 | .sl ks, v => ∃ A len cap, v = .slice A len cap /\ len <= cap /\ cap <= maxLen /\ (0 < len -> ∃ b o, A = some ⟨b, o, none⟩ /\ ∀ i, i < len -> ks.okV w (fun j => w.cell? ⟨b, o + i * ks.len + j, none⟩) 0)
 | .fp _, _ => False
 | .eh _ _, _ => False
 | .nilm, _ => False
 | .ap _, _ => False
def aJ.okV (w : World) : aJ -> (Nat -> Option Value) -> Nat -> Prop
 | .nil, _, _ => True
 | .cons k r, cell, j => (∃ v, cell j = some v /\ k.okV w v) /\ r.okV w cell (j + 1)
end
mutual
def DK.fits : DK -> Dv -> Prop
 | .int k, d => d = .i d.I /\ xz k <= d.I /\ d.I <= vN k
 | .bool, d => d = .b d.B
 | .str, d => d = .s d.S /\ d.S.size <= maxLen
 | .sl ks, d => d = .t d.T /\ d.T.length <= maxLen /\ ∀ i, i < d.T.length -> ks.fits ((d.T[i]?).getD [])
 | .fp _, _ => False
 | .eh _ _, _ => False
 | .nilm, _ => False
 | .ap _, _ => False
def aJ.fits : aJ -> List Dv -> Prop
 | .nil, l => l = []
 | .cons k r, l => ∃ d m, l = d :: m /\ k.fits d /\ r.fits m
end
theorem Sb {w : World} {b j : Nat} {v : Value} (h : w.cell? ⟨b, j, none⟩ = some v) : cu (xM w) b j = some v := by
 unfold World.cell? at h; show (match w.heap[b]? with | some (.cells c _ _) => c[j]? | _ => none) = some v
 cases hb : w.heap[b]? with
 | none => rw [hb] at h; cases h
 | some x =>
   rw [hb] at h; cases x with
   | cells c t fr => exact h
   | _ => cases h
mutual
theorem DK.rd_rel {w : World} : ∀ {k : DK} {v : Value}, k.okV w v -> k.Rel (xM w) (k.rd w v) v
 | .int k, v, h => by simp only [DK.okV] at h; obtain ⟨n, rfl, _⟩ := h; rfl
 | .bool, v, h => by simp only [DK.okV] at h; obtain ⟨n, rfl⟩ := h; rfl
 | .str, v, h => by simp only [DK.okV] at h; obtain ⟨n, rfl, _⟩ := h; rfl
 | .sl ks, v, h => by
   simp only [DK.okV] at h; obtain ⟨A, len, cap, rfl, hle, hcp, hr⟩ := h; simp only [DK.Rel]; cases A with
   | none =>
     have h0 : len = 0 := by
      cases len with
      | zero => rfl
      | succ n => obtain ⟨b, o, h, _⟩ := hr (Nat.succ_pos n); cases h
     subst h0; exact ⟨none, cap, rfl, Nat.zero_le _, fun h => by simp [DK.rd, Dv.T] at h⟩
   | some a =>
     have hT : ((DK.sl ks).rd w (.slice (some a) len cap)).T = (List.range len).map fun i => ks.rd w (fun j => (w.cell? ⟨a.block, a.off + i * ks.len + j, none⟩).getD .nilIface) 0 := rfl; have hlen : ((DK.sl ks).rd w (.slice (some a) len cap)).T.length = len := by rw [hT]; simp
     refine ⟨some a, cap, by rw [hlen], by rw [hlen]; exact hle, fun h0 => ?_⟩
     rw [hlen] at h0; obtain ⟨b, o, ha, hrow⟩ := hr h0; injection ha with ha; subst ha; refine ⟨b, o, rfl, fun i hi => ?_⟩; rw [hlen] at hi; refine aJ.rd_rel (hrow i hi) (fun j v hv => Sb hv) (cellD := fun j => (w.cell? ⟨b, o + i * ks.len + j, none⟩).getD .nilIface) (fun j v hv => by rw [hv]; rfl) (fun m => ?_)
     show Dv.at _ i (0 + m) = _; unfold Dv.at; rw [hT, List.getElem?_map, List.getElem?_range hi, Nat.zero_add]; rfl
theorem aJ.rd_rel {w : World} : ∀ {ks : aJ} {cell cell' : Nat -> Option Value} {cellD : Nat -> Value} {row : Nat -> Dv} {j : Nat}, ks.okV w cell j -> (∀ j v, cell j = some v -> cell' j = some v) -> (∀ j v, cell j = some v -> cellD j = v) ->
    (∀ m, row (j + m) = ((ks.rd w cellD j)[m]?).getD (.i 0)) -> ks.Rel (xM w) row cell' j
 | .nil, _, _, _, _, _, _, _, _, _ => trivial
 | .cons k r, cell, cell', cellD, row, j, h, h1, h2, h3 => by
   simp only [aJ.okV] at h; obtain ⟨⟨v, hv, hk⟩, hr⟩ := h; simp only [aJ.Rel]; refine ⟨⟨v, h1 j v hv, ?_⟩, aJ.rd_rel hr h1 h2 fun m => ?_⟩
   ·have := h3 0; rw [Nat.add_zero] at this; rw [this]; show k.Rel _ (k.rd w (cellD j)) v; rw [h2 j v hv]; exact DK.rd_rel hk
   ·rw [show j + 1 + m = j + (m + 1) by omega, h3 (m + 1)]
    rfl
end
mutual
theorem DK.rd_fits {w : World} : ∀ {k : DK} {v : Value}, k.okV w v -> k.fits (k.rd w v)
 | .int k, v, h => by simp only [DK.okV] at h; obtain ⟨n, rfl, h1, h2⟩ := h; exact ⟨rfl, h1, h2⟩
 | .bool, v, h => by simp only [DK.okV] at h; obtain ⟨n, rfl⟩ := h; exact (rfl : _ = _)
 | .str, v, h => by simp only [DK.okV] at h; obtain ⟨n, rfl, h1⟩ := h; exact ⟨rfl, h1⟩
 | .sl ks, v, h => by
   simp only [DK.okV] at h; obtain ⟨A, len, cap, rfl, hle, hcp, hr⟩ := h; simp only [DK.fits]; cases A with
   | none => exact ⟨rfl, Nat.zero_le _, fun i hi => by simp [DK.rd, Dv.T] at hi⟩
   | some a =>
     have hT : ((DK.sl ks).rd w (.slice (some a) len cap)).T = (List.range len).map fun i => ks.rd w (fun j => (w.cell? ⟨a.block, a.off + i * ks.len + j, none⟩).getD .nilIface) 0 := rfl; have hlen : ((DK.sl ks).rd w (.slice (some a) len cap)).T.length = len := by rw [hT]; simp
     refine ⟨rfl, by rw [hlen]; omega, fun i hi => ?_⟩
     rw [hlen] at hi; obtain ⟨b, o, ha, hrow⟩ := hr (by omega)
     injection ha with ha; subst ha; rw [hT, List.getElem?_map, List.getElem?_range hi]; exact aJ.rd_fits (hrow i hi) (fun j v hv => by rw [hv]; rfl)
theorem aJ.rd_fits {w : World} : ∀ {ks : aJ} {cell : Nat -> Option Value} {cellD : Nat -> Value} {j : Nat}, ks.okV w cell j -> (∀ j v, cell j = some v -> cellD j = v) -> ks.fits (ks.rd w cellD j)
 | .nil, _, _, _, _, _ => rfl
 | .cons k r, cell, cellD, j, h, h2 => by
   simp only [aJ.okV] at h; obtain ⟨⟨v, hv, hk⟩, hr⟩ := h; simp only [aJ.fits, aJ.rd]; exact ⟨_, _, rfl, by rw [h2 j v hv]; exact DK.rd_fits hk, aJ.rd_fits hr h2⟩
end
inductive CK where
 | int (k : IntKind)
 | bool
 | str
 | cg (ks : aJ)
 | other
def CK.ok (W : World) : CK -> Value -> Prop
 | .int k, v => ∃ n, v = .int k n /\ xz k <= n /\ n <= vN k
 | .bool, v => ∃ b, v = .bool b
 | .str, v => ∃ s : ByteArray, v = .string s /\ s.size <= maxLen
 | .cg ks, v => (DK.sl ks).okV W v
 | .other, v => True
def CK.dk : CK -> Option DK
 | .int k => some (.int k)
 | .bool => some .bool
 | .str => some .str
 | .cg ks => some (.sl ks)
 | .other => none
def qh : List CK -> Option aJ
 | [] => some .nil
 | k :: r =>
   match k.dk, qh r with
   | some a, some b => some (.cons a b)
   | _, _ => none
theorem zO : ∀ {l : List CK} {ks : aJ}, qh l = some ks -> ks.len = l.length
 | [], ks, h => by simp only [qh, Option.some.injEq] at h; subst h; rfl
 | k :: r, ks, h => by
   simp only [qh] at h; split at h
   ·rename_i a b h1 h2; injection h with h; subst h; simp [aJ.len, zO h2]
   ·cases h
theorem CK.ZU {W : World} {k : CK} {d : DK} {v : Value} (h : k.dk = some d) (hv : k.ok W v) : d.okV W v := by
 cases k <;> simp only [CK.dk, Option.some.injEq] at h <;> first
  | (cases h; done)
  | (subst h; simp only [DK.okV]; exact hv; done)
  | (subst h; exact hv)
theorem DO {W : World} {cell : Nat -> Option Value} : ∀ {l : List CK} {ks : aJ} {j : Nat}, qh l = some ks -> (∀ (i : Nat) (k : CK), l[i]? = some k -> ∃ v, cell (j + i) = some v /\ k.ok W v) -> ks.okV W cell j
 | [], ks, j, h, _ => by simp only [qh, Option.some.injEq] at h; subst h; trivial
 | k :: r, ks, j, h, hc => by
   simp only [qh] at h; split at h
   ·rename_i a b h1 h2; injection h with h; subst h; simp only [aJ.okV]; obtain ⟨v, hv, hk⟩ := hc 0 k rfl
    exact ⟨⟨v, hv, CK.ZU h1 hk⟩, DO h2 fun i k' hi => by
     have := hc (i + 1) k' (by simpa using hi)
     rw [show j + 1 + i = j + (i + 1) by omega]; exact this⟩
   ·cases h
def qy (P : Program) (g : TypeId -> Option (List CK)) : List Field -> Nat -> Option (List CK)
 | [], _ => some []
 | f :: r, o =>
   match g f.type, qy P g r (o + P.cellsOf f.type) with
   | some ks, some l => cond (Nat.beq f.offset o && Nat.beq ks.length (P.cellsOf f.type)) (some (ks ++ l)) none
   | _, _ => none
def iA (P : Program) : Nat -> TypeId -> Option (List CK)
 | 0, _ => none
 | n + 1, t =>
   match P.underlying t with
   | some (.int k) => some [.int k]
   | some .bool => some [.bool]
   | some .string => some [.str]
   | some (.slice e) =>
     match iA P n e with
     | some l =>
       match qh l with
       | some ks => cond (Nat.beq l.length (P.cellsOf e) && Nat.blt 0 (P.cellsOf e)) (some [.cg ks]) (some [.other])
       | none => some [.other]
     | none => some [.other]
   | some (.struct fs) =>
     match qy P (iA P n) fs.toList 0 with
     | some l => cond (Nat.beq l.length (P.cellsOf t)) (some l) none
     | none => none
   | _ => none
theorem Nu {W : World} {a : Addr} {i : Nat} {v : Value} (h : W.cell? (a.add i) = some v) : W.cell? ⟨a.block, a.off + i, none⟩ = some v := by
 unfold Addr.add at h; split at h
 ·rename_i hi; subst hi; unfold World.cell? at h ⊢; cases hb : W.heap[a.block]? with
  | none => rw [hb] at h; cases h
  | some o =>
    rw [hb] at h; cases o with
    | cells c t fr =>
      simp only at h ⊢; cases hs : a.spot.isSome with
      | true => rw [hs] at h; simp at h
      | false => rw [hs] at h; simpa using h
    | _ => cases h
 ·exact h
theorem add_add {W : World} {a : Addr} {i j : Nat} {v : Value} (h : W.cell? ((a.add i).add j) = some v) : W.cell? ⟨a.block, a.off + i + j, none⟩ = some v := by
 have := Nu h; unfold Addr.add at this; split at this
 ·rename_i hi; subst hi; simpa using this
 ·exact this
theorem rh {W : World} {a : Addr} {v : Value} (h : W.cell? a = some v) : a.spot = none /\ a.block < W.heap.size := by
 unfold World.cell? at h; cases hb : W.heap[a.block]? with
 | none => rw [hb] at h; cases h
 | some o =>
   rw [hb] at h; refine ⟨?_, (Array.getElem?_eq_some_iff.1 hb).1⟩; cases o with
   | cells c t fr =>
     simp only at h; cases hs : a.spot with
     | none => rfl
     | some _ => rw [hs] at h; simp at h
   | _ => cases h
section
open Go.ChangeShapes Go.WideShapes Go.ChangeAt
variable {H : Type} {enc : TypeId × Value -> H} {P : Program} {w : World} {base : Nat} {sp : Nat -> Bool} {held : Bool}
def py (W : World) (ks : List CK) (cs : List Value) : Prop := cs.length = ks.length /\ ∀ (j : Nat) (k : CK), ks[j]? = some k -> ∃ v, cs[j]? = some v /\ k.ok W v
theorem Cm {k : IntKind} {n : Int} (h : (Lit.int k n).wf = true) : xz k <= n /\ n <= vN k := by
 cases k <;> simpa [Lit.wf, xz, vN, IntKind.min, IntKind.max, IntKind.signed, IntKind.bits] using h
theorem fE {k : CK} {v : Value} (h : k.ok w v) : py w [k] [v] := ⟨rfl, fun j k' hj => by
 cases j with
 | zero => simp at hj; subst hj; exact ⟨v, rfl, h⟩
 | succ j => simp at hj⟩
theorem zo {n : Nat} (ih : ∀ {t : TypeId} {cs : List Value} {x : DataW H × List MemPlace} {fuel : Nat} {ks : List CK}, iA P n t = some ks -> DataW.trod enc P w base sp held fuel t cs = some x -> py w ks cs)
    {cs : List Value} {m : Nat} : ∀ (fs : List Field) (o : Nat) {l : List CK}, qy P (iA P n) fs o = some l -> o + l.length <= cs.length ->
    (∀ f ∈ fs, ∃ x, DataW.trod enc P w base sp held m f.type ((cs.drop f.offset).take (P.cellsOf f.type)) = some x) ->
    ∀ (j : Nat) (k : CK), l[j]? = some k -> ∃ v, cs[o + j]? = some v /\ k.ok w v
 | [], o, l, hl, _, _, j, k, hj => by simp [qy] at hl; subst hl; simp at hj
 | f :: r, o, l, hl, hlen, hx, j, k, hj => by
   unfold qy at hl; cases h1 : iA P n f.type with
   | none => rw [h1] at hl; simp at hl
   | some ks =>
     rw [h1] at hl; cases h2 : qy P (iA P n) r (o + P.cellsOf f.type) with
     | none => rw [h2] at hl; simp at hl
     | some l2 =>
       rw [h2] at hl; simp only at hl; cases hc : (Nat.beq f.offset o && Nat.beq ks.length (P.cellsOf f.type)) with
       | false => rw [hc] at hl; simp at hl
       | true =>
         rw [hc] at hl; simp only [cond_true, Option.some.injEq] at hl; subst hl; simp only [Bool.and_eq_true, Nat.beq_eq] at hc; obtain ⟨ho, hk⟩ := hc; obtain ⟨x, hxf⟩ := hx f (List.mem_cons_self ..); have hone := ih h1 hxf
         by_cases hjk : j < ks.length
         ·rw [List.getElem?_append_left hjk] at hj; obtain ⟨v, hv, hok⟩ := hone.2 j k hj; refine ⟨v, ?_, hok⟩; rw [List.getElem?_take_of_lt (by omega), List.getElem?_drop, ho] at hv
          exact hv
         ·rw [List.getElem?_append_right (by omega)] at hj
          obtain ⟨v, hv, hok⟩ := zo ih r (o + P.cellsOf f.type) h2 (by simp only [List.length_append] at hlen; omega) (fun g hg => hx g (List.mem_cons_of_mem _ hg)) (j - ks.length) k hj
          refine ⟨v, ?_, hok⟩; rw [<- hv]; congr 1; omega
theorem rZ : ∀ {n : Nat} {t : TypeId} {cs : List Value} {x : DataW H × List MemPlace} {fuel : Nat} {ks : List CK}, iA P n t = some ks -> DataW.trod enc P w base sp held fuel t cs = some x -> py w ks cs
 | 0, t, cs, x, fuel, ks, hk, hx => by simp [iA] at hk
 | n + 1, t, cs, x, fuel, ks, hk, hx => by
   unfold iA at hk; cases hu : P.underlying t with
   | none => rw [hu] at hk; simp at hk
   | some u =>
     rw [hu] at hk; cases u with
     | int k =>
       simp only [Option.some.injEq] at hk; subst hk; obtain ⟨z, rfl, _, hwf⟩ := DataW.trod_int hu hx; exact fE ⟨z, rfl, Cm hwf⟩
     | bool =>
       simp only [Option.some.injEq] at hk; subst hk; cases fuel with
       | zero => simp [DataW.trod] at hx
       | succ m =>
         unfold DataW.trod at hx; rw [hu] at hx; split at hx <;> simp_all; exact fE ⟨_, rfl⟩
     | string =>
       simp only [Option.some.injEq] at hk; subst hk; obtain ⟨s, rfl, _, hs⟩ := DataW.trod_string hu hx; exact fE ⟨s, rfl, hs⟩
     | slice e =>
       simp only at hk
       have other : some [CK.other] = some ks -> py w ks cs := fun h => by
        injection h with h; subst h; rcases DataW.trod_slice hu hx with ⟨rfl, _⟩ | ⟨a, len, cap, _, _, _, _, rfl, _⟩
        ·exact fE trivial
        ·exact fE trivial
       cases hf : iA P n e with
       | none => rw [hf] at hk; exact other hk
       | some l =>
         rw [hf] at hk; simp only at hk; cases hd : qh l with
         | none => rw [hd] at hk; exact other hk
         | some dks =>
           rw [hd] at hk; simp only at hk; cases hc : (Nat.beq l.length (P.cellsOf e) && Nat.blt 0 (P.cellsOf e)) with
           | false => rw [hc] at hk; exact other hk
           | true =>
             rw [hc] at hk; simp only [cond_true, Option.some.injEq] at hk; subst hk; simp only [Bool.and_eq_true, Nat.beq_eq] at hc; obtain ⟨hcl, hcp⟩ := hc; unfold Nat.blt at hcp; have hcp := Nat.le_of_ble_eq_true hcp; have hdl := zO hd; rcases DataW.trod_slice hu hx with ⟨rfl, _⟩ | ⟨a, len, cap, elems, rest, m, _, rfl, _, _, hle, hcap, hel, cJ, _, _⟩
             ·exact fE ⟨none, 0, 0, rfl, Nat.le_refl _, Nat.zero_le _, fun h => absurd h (Nat.lt_irrefl 0)⟩
             ·refine fE ⟨some a, len, cap, rfl, hle, hcap, fun h0 => ?_⟩
              have row : ∀ i, i < len -> ∀ (j : Nat) (k : CK), l[j]? = some k -> ∃ v, w.cell? ((a.add (i * P.cellsOf e)).add j) = some v /\ k.ok w v := fun i hi j k hj => by
               have h1 := cJ i hi; rw [List.getElem?_eq_getElem (by omega), Option.bind_eq_some_iff] at h1
               obtain ⟨cs, h2, h3⟩ := h1; obtain ⟨v, hv, hok⟩ := (rZ hf h3).2 j k hj; have hjl : j < P.cellsOf e := by rw [<- hcl]; exact (List.getElem?_eq_some_iff.1 hj).1
               exact ⟨v, by rw [(World.cells?_some h2).2.2 j hjl]; exact hv, hok⟩
              have h00 : (a.add (0 * P.cellsOf e)).add 0 = a := by rw [Nat.zero_mul]; simp [Addr.add]
              obtain ⟨v0, hv0, _⟩ := row 0 h0 0 l[0] (List.getElem?_eq_getElem (by omega))
              rw [h00] at hv0; have hsp := (rh hv0).1; refine ⟨a.block, a.off, by cases a; simp only at hsp; simp [hsp], fun i hi => ?_⟩
              refine DO hd fun j k hj => ?_; obtain ⟨v, hv, hok⟩ := row i hi j k hj; refine ⟨v, ?_, hok⟩; rw [Nat.zero_add, hdl, hcl]; exact add_add hv
     | struct fs =>
       simp only at hk; cases hf : qy P (iA P n) fs.toList 0 with
       | none => rw [hf] at hk; simp at hk
       | some l =>
         rw [hf] at hk; simp only at hk; cases hc : Nat.beq l.length (P.cellsOf t) with
         | false => rw [hc] at hk; simp at hk
         | true =>
           rw [hc] at hk; simp only [cond_true, Option.some.injEq] at hk; subst hk; have hlen := Nat.eq_of_beq_eq_true hc; obtain ⟨xs, m, _, _, hcl, hxl, cJ⟩ := DataW.trod_struct hu hx; refine ⟨by omega, fun j k hj => ?_⟩
           have := zo (m := m) (fun {t cs x fuel ks} => rZ (n := n)) fs.toList 0 hf (cs := cs) (by omega) (fun f hfm => by
            obtain ⟨i, hi, e⟩ := List.getElem_of_mem hfm
            have h1 : fs[i]? = some f := by
             rw [<- Array.getElem?_toList, List.getElem?_eq_getElem hi, e]
            have h2 := cJ i f h1; have h3 : i < xs.length := by rw [hxl]; simpa using hi
            rw [List.getElem?_eq_getElem h3] at h2
            exact ⟨_, h2⟩) j k hj
           simpa using this
     | _ => simp at hk
inductive PK where
 | int (k : IntKind)
 | bool
 | str
 | struct (ks : List CK)
 | rows (sz : Nat) (ks : List CK)
 | cg (ks : aJ)
def PK.of (P : Program) (t : TypeId) : Option PK :=
 match P.underlying t with
 | some (.int k) => some (.int k)
 | some .bool => some .bool
 | some .string => some .str
 | some (.struct _) => (iA P 10 t).map .struct
 | some (.slice e) =>
   match iA P 10 t with
   | some [.cg ks] => some (.cg ks)
   | _ =>
     match iA P 10 e with
     | some ks => cond (Nat.beq ks.length (P.cellsOf e) && Nat.blt 0 (P.cellsOf e)) (some (.rows (P.cellsOf e) ks)) none
     | none => none
 | _ => none
def PK.holds (W : World) : PK -> Value -> Prop
 | .int k, v => ∃ n, v = .int k n /\ xz k <= n /\ n <= vN k
 | .bool, v => ∃ b, v = .bool b
 | .str, v => ∃ s : ByteArray, v = .string s /\ s.size <= maxLen
 | .struct ks, v => ∃ cs, v = .agg cs /\ py W ks cs.toList
 | .cg ks, v => (DK.sl ks).okV W v
 | .rows sz ks, v => ∃ A len cap, v = .slice A len cap /\ len <= cap /\ cap <= maxLen /\ (A = none -> cap = 0) /\ ks.length = sz /\
     ∀ a, A = some a -> (0 < cap -> a.spot = none /\ a.block < W.heap.size) /\ ∀ i, i < len -> ∀ (j : Nat) (k : CK), ks[j]? = some k -> ∃ u, W.cell? ⟨a.block, a.off + i * sz + j, none⟩ = some u /\ k.ok W u
theorem Lf {t e : TypeId} {v : Value} {d : DataW H} {ps : List MemPlace} {p : PK} {r : Reach} {b0 : Nat} (hu : P.underlying t = some (.slice e))
    (hp : (match iA P 10 e with
     | some ks => cond (Nat.beq ks.length (P.cellsOf e) && Nat.blt 0 (P.cellsOf e)) (some (PK.rows (P.cellsOf e) ks)) none
     | none => none) = some p) (hval : Value.okWide P w r b0 t v) (hd : DataW.Trod enc P w 0 (fun _ => true) held t v d ps) : p.holds w v := by
 obtain ⟨fuel, hd'⟩ := hd; cases hf : iA P 10 e with
 | none => rw [hf] at hp; simp at hp
 | some ks =>
   rw [hf] at hp; simp only at hp; cases hc : (Nat.beq ks.length (P.cellsOf e) && Nat.blt 0 (P.cellsOf e)) with
   | false => rw [hc] at hp; simp at hp
   | true =>
     rw [hc] at hp; simp only [cond_true, Option.some.injEq] at hp; subst hp; simp only [Bool.and_eq_true, Nat.beq_eq] at hc; have hpos : 0 < P.cellsOf e := by have := hc.2; unfold Nat.blt at this; exact Nat.le_of_ble_eq_true this
     obtain ⟨A, len, cap, rfl⟩ := okWide_slice hu hval; have hd2 : DataW.trod enc P w 0 (fun _ => true) held fuel t [.slice A len cap] = some (d, ps) := hd'; rcases DataW.trod_slice hu hd2 with ⟨h1, _⟩ | ⟨a, len', cap', elems, rest, n, _, h1, _, _, hle, hcap, hel, cJ, hrest, _⟩
     ·injection h1 with h1; injection h1 with h1 h2 h3; subst h1; subst h2; subst h3; exact ⟨none, 0, 0, rfl, Nat.le_refl _, Nat.zero_le _, fun _ => rfl, hc.1, fun a ha => by cases ha⟩
     ·injection h1 with h1; injection h1 with h1 h2 h3; subst h1; subst h2; subst h3; obtain ⟨hr1, hr2⟩ := hrest rfl; refine ⟨some a, len, cap, rfl, hle, hcap, (fun h => by cases h), hc.1, fun a' ha' => ?_⟩
      injection ha' with ha'; subst ha'
      have elem : ∀ {i : Nat} {x : DataW H × List MemPlace}, (w.cells? 0 (a.add (i * P.cellsOf e)) (P.cellsOf e)).bind (DataW.trod enc P w 0 (fun _ => true) held n e) = some x ->
          ∃ cs, py w ks cs /\ ∀ j, j < P.cellsOf e -> w.cell? ((a.add (i * P.cellsOf e)).add j) = cs[j]? := by
       intro i x hx; rw [Option.bind_eq_some_iff] at hx; obtain ⟨cs, h1, h2⟩ := hx; exact ⟨cs, rZ hf h2, (World.cells?_some h1).2.2⟩
      refine ⟨fun hpc => ?_, fun i hi j k hj => ?_⟩
      ·have h0 : ∃ x, (w.cells? 0 (a.add (0 * P.cellsOf e)) (P.cellsOf e)).bind (DataW.trod enc P w 0 (fun _ => true) held n e) = some x := by
         by_cases hl : 0 < len
         ·exact ⟨elems[0], by rw [cJ 0 hl]; exact List.getElem?_eq_getElem (by omega)⟩
         ·have hl0 : len = 0 := by omega
          have hlr : 0 < rest.length := by omega
          refine ⟨rest[0], ?_⟩; have := hr2 0 (by omega)
          rw [hl0] at this; simp only [Nat.add_zero] at this; rw [this]; exact List.getElem?_eq_getElem hlr
       obtain ⟨x, hx⟩ := h0; obtain ⟨cs, hok, hcell⟩ := elem hx; have hlen := hok.1; have hc0 := hcell 0 hpos; rw [Nat.zero_mul] at hc0; have e0 : (a.add 0).add 0 = a := by simp [Addr.add]
       rw [e0, List.getElem?_eq_getElem (by omega)] at hc0
       exact rh hc0
      ·have hx : ∃ x, (w.cells? 0 (a.add (i * P.cellsOf e)) (P.cellsOf e)).bind (DataW.trod enc P w 0 (fun _ => true) held n e) = some x := ⟨elems[i], by rw [cJ i hi]; exact List.getElem?_eq_getElem (by omega)⟩
       obtain ⟨x, hx⟩ := hx; obtain ⟨cs, hok, hcell⟩ := elem hx; obtain ⟨u, hu1, hu2⟩ := hok.2 j k hj; have hjl : j < P.cellsOf e := by rw [<- hc.1]; exact (List.getElem?_eq_some_iff.1 hj).1
       exact ⟨u, add_add (by rw [hcell j hjl]; exact hu1), hu2⟩
theorem ME {t : TypeId} {v : Value} {d : DataW H} {ps : List MemPlace} {p : PK} {r : Reach} {b0 : Nat} (hp : PK.of P t = some p) (hval : Value.okWide P w r b0 t v)
    (hd : DataW.Trod enc P w 0 (fun _ => true) held t v d ps) : p.holds w v := by
 unfold PK.of at hp; cases hu : P.underlying t with
 | none => rw [hu] at hp; simp at hp
 | some u =>
   rw [hu] at hp; obtain ⟨fuel, hd'⟩ := hd; cases u with
   | int k =>
     simp only [Option.some.injEq] at hp; subst hp; obtain ⟨a0, rfl, _, _, w0⟩ := open_int hu hval ⟨fuel, hd'⟩; exact ⟨a0, rfl, Cm w0⟩
   | bool =>
     simp only [Option.some.injEq] at hp; subst hp; obtain ⟨b, rfl, _⟩ := open_bool hu hval ⟨fuel, hd'⟩; exact ⟨b, rfl⟩
   | string =>
     simp only [Option.some.injEq] at hp; subst hp; obtain ⟨s, rfl⟩ := okWide_string hu hval; have hd2 : DataW.trod enc P w 0 (fun _ => true) held fuel t [.string s] = some (d, ps) := hd'; obtain ⟨s', hs, _, hle⟩ := DataW.trod_string hu hd2; injection hs with hs; injection hs with hs; subst hs; exact ⟨s, rfl, hle⟩
   | struct fs =>
     simp only at hp; cases hf : iA P 10 t with
     | none => rw [hf] at hp; simp at hp
     | some ks =>
       rw [hf] at hp; simp only [Option.map_some, Option.some.injEq] at hp; subst hp; obtain ⟨cs, rfl, _⟩ := okWide_struct hu hval; exact ⟨cs, rfl, rZ hf hd'⟩
   | slice e =>
     simp only at hp; split at hp
     ·rename_i dks hdk; simp only [Option.some.injEq] at hp; subst hp; obtain ⟨A, len, cap, rfl⟩ := okWide_slice hu hval; obtain ⟨v', hv', hok⟩ := (rZ hdk hd').2 0 _ rfl; have hv' : some (Value.slice A len cap) = some v' := hv'; injection hv' with hv'; subst hv'; exact hok
     ·exact Lf hu hp hval ⟨fuel, hd'⟩
   | _ => simp at hp
end
def CK.bY : CK -> Nat -> ch
 | .int k, c => .int k c
 | .bool, c => .bool c
 | .str, c => .str c
 | .cg ks, c => .cg ks c
 | .other, c => .val c
def CK.sv : CK -> Nat -> SV
 | .int k, c => .int k (.v c)
 | .bool, c => .bool (.v c)
 | .str, c => .str (.v c)
 | .cg ks, c => .cg ks (.v c)
 | .other, c => .val c (.il 0)
def CK.facts : CK -> Nat -> aa
 | .int k, c => [(.o2 .le (.il (xz k)) (.v c), true), (.o2 .le (.v c) (.il (vN k)), true)]
 | _, _ => []
def ic : List CK -> Nat -> List ch
 | [], _ => []
 | k :: r, c => k.bY c :: ic r (c + 1)
def BV : List CK -> Nat -> List SV
 | [], _ => []
 | k :: r, c => k.sv c :: BV r (c + 1)
def sS : List CK -> Nat -> aa
 | [], _ => []
 | k :: r, c => k.facts c ++ sS r (c + 1)
def A2 : PK -> Nat -> SV
 | .int k, i => .int k (.v (32 * i))
 | .bool, i => .bool (.v (32 * i))
 | .str, i => .str (.v (32 * i))
 | .struct ks, i => .agg (BV ks (32 * i))
 | .rows sz ks, i => .sl i sz (.il 0) (.v (32 * i))
 | .cg ks, i => .cg ks (.v (32 * i))
def uZ : List PK -> Nat -> List SV
 | [], _ => []
 | p :: r, i => A2 p i :: uZ r (i + 1)
def jU : List PK -> Nat -> aQ
 | [], _ => []
 | .rows sz ks :: r, i => (i, .qW sz (.v (32 * i)) (ic ks (32 * i))) :: jU r (i + 1)
 | _ :: r, i => jU r (i + 1)
def Hd : PK -> Nat -> aa
 | .int k, i => CK.facts (.int k) (32 * i)
 | .struct ks, i => sS ks (32 * i)
 | .rows _ _, i => [(.o2 .le (.il 0) (.v (32 * i)), true), (.o2 .le (.v (32 * i)) (.il 9223372036854775807), true)]
 | .cg _, i => [(.o2 .le (.o1 .ab (.v (32 * i))) (.il 9223372036854775807), true)]
 | _, _ => []
def sc : List PK -> Nat -> aa
 | [], _ => []
 | p :: r, i => Hd p i ++ sc r (i + 1)
def PK.small : PK -> Bool
 | .struct ks => Nat.ble ks.length 32
 | .rows _ ks => Nat.ble ks.length 32
 | _ => true
def CK.rd (W : World) : CK -> Value -> Dv
 | .cg ks, v => (DK.sl ks).rd W v
 | _, v => dv v
def Dl (KS : List PK) (c : Nat) : CK :=
 match KS[c / 32]? with
 | some (.struct l) => (l[c % 32]?).getD .other
 | some (.rows _ l) => (l[c % 32]?).getD .other
 | _ => .other
def cellOf (W : World) (a : Addr) (k : Nat) : Value := (W.cell? ⟨a.block, a.off + k, none⟩).getD .nilIface
def Ko (W : World) (ks : List PK) (n : Nat) (u : Value) : Dv :=
 match ks[n / 32]? with
 | some (.cg k) => (DK.sl k).rd W u
 | _ =>
   match u with
   | .agg cs => (Dl ks n).rd W ((cs[n % 32]?).getD .nilIface)
   | .slice _ l _ => .i l
   | u => dv u
def uQ (W : World) (ks : List PK) (vs : List Value) (x : Nat -> Dv) (n : Nat) : Dv :=
 match vs[n / 32]? with
 | some u => Ko W ks n u
 | none => x n
def ac1 (W : World) (ks : List PK) (vs : List Value) (x : Nat -> Int -> Dv) (c : Nat) (i : Int) : Dv :=
 match vs[c / 32]?, ks[c / 32]? with
 | some (.slice (some a) _ _), some (.rows sz _) => (Dl ks c).rd W (cellOf W a (i.toNat * sz + c % 32))
 | some _, _ => .i 0
 | none, _ => x c i
def UX (W : World) (ks : List PK) (vs : List Value) (x : Nat -> Int -> Value) (c : Nat) (i : Int) : Value :=
 match vs[c / 32]?, ks[c / 32]? with
 | some (.agg cs), _ => (cs[c % 32]?).getD .nilIface
 | some (.slice (some a) _ _), some (.rows sz _) => cellOf W a (i.toNat * sz + c % 32)
 | some _, _ => .nilIface
 | none, _ => x c i
def ee (W : World) (ks : List PK) (vs : List Value) (x : Env) : Env := ⟨uQ W ks vs x.v, ac1 W ks vs x.fn, UX W ks vs x.val, x.mp, x.uf⟩
def po (vs : List Value) (n : Nat) : Option Pl :=
 match vs[n]? with
 | some (.slice (some a) _ cap) => some ⟨a.block, a.off, cap, false, none⟩
 | some (.slice none _ cap) => some ⟨0, 0, cap, true, none⟩
 | _ => none
def ng (W : World) (vs : List Value) : af := ⟨po vs, xM W⟩
section
variable {W : World} {KS : List PK} {VS : List Value} {x : Env} {ρ : af}
theorem Mu (i j : Nat) (h : j < 32) : (32 * i + j) / 32 = i /\ (32 * i + j) % 32 = j := by omega
theorem ET (i : Nat) : (32 * i) / 32 = i /\ (32 * i) % 32 = 0 := by omega
theorem aaN {k : CK} {c : Nat} {u : Value} {env : Env} (hz : ρ.fz = xM W) (hk : k.ok W u) (h1 : env.v c = k.rd W u) (h2 : env.val c 0 = u) : (k.sv c).Rel env ρ u := by
 cases k with
 | int k => obtain ⟨n, rfl, _⟩ := hk; show _ = _; simp only [E.den, h1]; rfl
 | bool => obtain ⟨n, rfl⟩ := hk; show _ = _; simp only [E.den, h1]; rfl
 | str => obtain ⟨n, rfl, _⟩ := hk; show _ = _; simp only [E.den, h1]; rfl
 | cg ks => simp only [CK.sv, SV.Rel, E.den, h1, hz]; exact DK.rd_rel hk
 | other => exact h2.symm
theorem X6 {k : CK} {c : Nat} {u : Value} {env : Env} {i : Nat} (hz : ρ.fz = xM W) (hk : k.ok W u) (h1 : env.fn c (i : Int) = k.rd W u) (h2 : env.val c (i : Int) = u) : ((k.bY c).at (.il i)).Rel env ρ u := by
 cases k with
 | int k => obtain ⟨n, rfl, _⟩ := hk; show _ = Value.int k (env.fn c (i : Int)).I; rw [h1]; rfl
 | bool => obtain ⟨n, rfl⟩ := hk; show _ = Value.bool (env.fn c (i : Int)).B; rw [h1]; rfl
 | str => obtain ⟨n, rfl, _⟩ := hk; show _ = Value.string (env.fn c (i : Int)).S; rw [h1]; rfl
 | cg ks => simp only [CK.bY, ch.at, SV.Rel, hz]; show DK.Rel _ _ (env.fn c (i : Int)) u; rw [h1]; exact DK.rd_rel hk
 | other => exact h2.symm
theorem NS {env : Env} (hz : ρ.fz = xM W) : ∀ {ks : List CK} {cs : List Value} {c : Nat}, cs.length = ks.length -> (∀ (j : Nat) (k : CK), ks[j]? = some k -> ∃ v, cs[j]? = some v /\ k.ok W v /\ env.v (c + j) = k.rd W v /\ env.val (c + j) 0 = v) ->
    SV.aD env ρ (BV ks c) cs
 | [], cs, c, hl, _ => by have : cs = [] := List.length_eq_zero_iff.1 (by simpa using hl); subst this; rfl
 | k :: r, [], c, hl, _ => by simp at hl
 | k :: r, u :: cs, c, hl, h => by
   obtain ⟨v, hv, hok, h1, h2⟩ := h 0 k rfl; simp at hv; subst hv; refine ⟨u, cs, rfl, aaN hz hok h1 h2, NS hz (by simpa using hl) (fun j k' hj => ?_)⟩
   obtain ⟨v, hv, hok, h1, h2⟩ := h (j + 1) k' (by simpa using hj)
   refine ⟨v, by simpa using hv, hok, ?_, ?_⟩
   ·rw [<- h1]; congr 1; omega
   ·rw [<- h2]; congr 1; omega
theorem rp : ∀ {ks : List CK} {c j : Nat} {bY : ch}, (ic ks c)[j]? = some bY -> ∃ k, ks[j]? = some k /\ bY = k.bY (c + j)
 | [], c, j, bY, h => by simp [ic] at h
 | k :: r, c, 0, bY, h => by simp [ic] at h; exact ⟨k, rfl, h.symm⟩
 | k :: r, c, j + 1, bY, h => by
   simp only [ic, List.getElem?_cons_succ] at h; obtain ⟨k', h1, h2⟩ := rp h; exact ⟨k', by simpa using h1, by rw [h2]; congr 1; omega⟩
theorem Uk {i : Nat} {p : PK} {v : Value} (hk : KS[i]? = some p) (hv : VS[i]? = some v) (hh : p.holds W v) (hs : p.small = true) :
    (A2 p i).Rel (ee W KS VS x) (ng W VS) v := by
 have d := ET i; cases p with
 | int k =>
   obtain ⟨n, rfl, _⟩ := hh; show _ = _; simp only [E.den, ee, uQ, Ko, d.1, hv, hk]; rfl
 | bool =>
   obtain ⟨n, rfl⟩ := hh; show _ = _; simp only [E.den, ee, uQ, Ko, d.1, hv, hk]; rfl
 | str =>
   obtain ⟨n, rfl, _⟩ := hh; show _ = _; simp only [E.den, ee, uQ, Ko, d.1, hv, hk]; rfl
 | struct ks =>
   obtain ⟨cs, rfl, hok⟩ := hh; have hsm : ks.length <= 32 := Nat.le_of_ble_eq_true hs; refine ⟨cs.toList, rfl, NS rfl hok.1 (fun j k hj => ?_)⟩; obtain ⟨u, hu, huk⟩ := hok.2 j k hj; have hjl : j < ks.length := (List.getElem?_eq_some_iff.1 hj).1; have dd := Mu i j (by omega)
   have hu' : cs[j]? = some u := by simpa using hu
   refine ⟨u, hu, huk, ?_, ?_⟩
   ·have hck : Dl KS (32 * i + j) = k := by unfold Dl; rw [dd.1, dd.2, hk]; simp only [hj, Option.getD_some]
    simp only [ee, uQ, Ko, dd.1, dd.2, hv, hk, hu', hck, Option.getD_some]
   ·simp only [ee, UX, dd.1, dd.2, hv, hu', Option.getD_some]
 | rows sz ks =>
   obtain ⟨A, len, cap, rfl, hle, hcap, hA, hks, cJ⟩ := hh; have hlen : ((E.v (32 * i)).den (ee W KS VS x)).I = (len : Int) := by simp only [E.den, ee, uQ, Ko, d.1, hv, hk]; rfl
   have hlen2 : ((E.v (32 * i)).den (ee W KS VS x)).I.toNat = len := by rw [hlen]; simp
   have h0 : ((E.il 0).den (ee W KS VS x)).I = 0 := rfl; simp only [A2, SV.Rel]; cases A with
   | none =>
     have := hA rfl; subst this; refine ⟨⟨0, 0, 0, true, none⟩, none, by simp [ng, po, hv], ?_, by simp, ?_, ?_, ?_⟩
     ·rw [hlen2, h0]; rfl
     ·rw [h0]; intro h; simp at h
     ·rw [hlen2, h0]; simp; omega
     ·rw [h0]; decide
   | some a =>
     refine ⟨⟨a.block, a.off, cap, false, none⟩, some a, by simp [ng, po, hv], ?_, by simp, ?_, ?_, ?_⟩
     ·rw [hlen2, h0]; rfl
     ·rw [h0]; intro h; obtain ⟨h1, _⟩ := (cJ a rfl).1 (by simpa using h)
      cases a; simp only at h1; simp [h1]
     ·rw [hlen2, h0]; simp; exact hle
     ·rw [h0]; decide
 | cg ks =>
   simp only [A2, SV.Rel, E.den, ee, uQ, Ko, d.1, hv, hk]; exact DK.rd_rel hh
theorem zq {KS : List PK} {VS : List Value} (hsm : ∀ p ∈ KS, p.small = true) (cJ : ∀ (i : Nat) (p : PK) (v : Value), KS[i]? = some p -> VS[i]? = some v -> p.holds W v) : ∀ (r : List PK) (us : List Value) (i : Nat),
    (∀ k, KS[i + k]? = r[k]?) -> (∀ k, VS[i + k]? = us[k]?) -> r.length = us.length -> SV.aD (ee W KS VS x) (ng W VS) (uZ r i) us
 | [], [], i, _, _, _ => rfl
 | [], _ :: _, i, _, _, h => by simp at h
 | _ :: _, [], i, _, _, h => by simp at h
 | p :: r, v :: us, i, h1, h2, h3 => by
   have e1 : KS[i]? = some p := by have := h1 0; simpa using this
   have e2 : VS[i]? = some v := by have := h2 0; simpa using this
   refine ⟨v, us, rfl, Uk e1 e2 (cJ i p v e1 e2) (hsm p (List.mem_of_getElem? e1)), zq hsm cJ r us (i + 1) (fun k => ?_) (fun k => ?_) (by simpa using h3)⟩
   ·have := h1 (k + 1); rw [<- Nat.add_assoc] at this; simpa [Nat.add_right_comm] using this
   ·have := h2 (k + 1); rw [<- Nat.add_assoc] at this; simpa [Nat.add_right_comm] using this
theorem je : ∀ (r : List PK) (i n : Nat) (o : aA), bZ (jU r i) n = some o -> ∃ j sz ks, n = i + j /\ r[j]? = some (.rows sz ks) /\ o = .qW sz (.v (32 * n)) (ic ks (32 * n))
 | [], i, n, o, h => by simp [jU, bZ] at h
 | p :: r, i, n, o, h => by
   have next : bZ (jU r (i + 1)) n = some o -> ∃ j sz ks, n = i + j /\ (p :: r)[j]? = some (.rows sz ks) /\ o = .qW sz (.v (32 * n)) (ic ks (32 * n)) := fun h => by
    obtain ⟨j, sz, ks, e, h1, h2⟩ := je r (i + 1) n o h; exact ⟨j + 1, sz, ks, by omega, by simpa using h1, h2⟩
   cases p with
   | rows sz ks =>
     simp only [jU, bZ] at h; cases hb : Nat.beq i n with
     | true =>
       rw [hb] at h; obtain rfl := Nat.eq_of_beq_eq_true hb; simp only [cond_true, Option.some.injEq] at h; exact ⟨0, sz, ks, rfl, rfl, h.symm⟩
     | false => rw [hb] at h; exact next h
   | _ => exact next h
theorem qe {ks : List CK} {c : Nat} : Dg (ic ks c) = false := by
 cases ks with
 | nil => rfl
 | cons k r => cases k <;> rfl
theorem RE (hl : KS.length = VS.length) (hsm : ∀ p ∈ KS, p.small = true) (cJ : ∀ (i : Nat) (p : PK) (v : Value), KS[i]? = some p -> VS[i]? = some v -> p.holds W v) :
    az (ee W KS VS x) (anchor W) (ng W VS) (bg (jU KS 0)) W := by
 refine ⟨Kept.refl _, fun n o hn => ?_, fun m n o o' p q hm hn ho => ?_, lA.none (fun n o hn => by obtain ⟨j, sz, ks, e, hk, rfl⟩ := je KS 0 n o hn; rfl) rfl, ⟨fun b x hb => hb, fun b x n o p hb hn ho => by obtain ⟨j, sz, ks, e, hk, rfl⟩ := je KS 0 n o hn; exact absurd ho (by simp [aA.owner]), fun b x hb hk => trivial⟩⟩
 ·obtain ⟨j, sz, ks, e, hk, rfl⟩ := je KS 0 n o hn; have : j = n := by omega
  subst this; have hj : j < VS.length := by rw [<- hl]; exact (List.getElem?_eq_some_iff.1 hk).1
  have hv : VS[j]? = some VS[j] := List.getElem?_eq_getElem hj; have hh := cJ j _ _ hk hv; have hs : ks.length <= 32 := Nat.le_of_ble_eq_true (hsm _ (List.mem_of_getElem? hk)); generalize VS[j] = v at hv hh; obtain ⟨A, len, cap, rfl, hle, hcap, hA, hks, hcells⟩ := hh; have d := ET j; have hlen2 : ((E.v (32 * j)).den (ee W KS VS x)).I.toNat = len := by simp only [E.den, ee, uQ, Ko, d.1, hv, hk]; show ((len : Int)).toNat = len; simp
  simp only [aA.Rel, hlen2]; cases A with
  | none =>
    have := hA rfl; subst this; refine ⟨⟨0, 0, 0, true, none⟩, by simp [ng, po, hv], by simpa using hle, fun _ => rfl, .inl ⟨qe, fun h => by simp at h, fun i hi => by omega⟩⟩
  | some a =>
    refine ⟨⟨a.block, a.off, cap, false, none⟩, by simp [ng, po, hv], hle, fun h => by simp at h, .inl ⟨qe, fun h => ((hcells a rfl).1 h).2, fun i hi jj bY hcol => ?_⟩⟩
    obtain ⟨k, hkk, rfl⟩ := rp hcol; obtain ⟨u, hu, huk⟩ := (hcells a rfl).2 i hi jj k hkk; have hjl : jj < ks.length := (List.getElem?_eq_some_iff.1 hkk).1; have dd := Mu j jj (by omega)
    have hcell : cellOf W a (i * sz + jj) = u := by
     unfold cellOf; rw [show a.off + (i * sz + jj) = a.off + i * sz + jj by omega, hu]
     rfl
    refine ⟨u, hu, X6 rfl huk ?_ ?_⟩
    ·have hck : Dl KS (32 * j + jj) = k := by unfold Dl; rw [dd.1, dd.2, hk]; simp only [hkk, Option.getD_some]
     simp only [ee, ac1, dd.1, dd.2, hv, hk, hck, Int.toNat_natCast, hcell]
    ·simp only [ee, UX, dd.1, dd.2, hv, hk, Int.toNat_natCast, hcell]
 ·obtain ⟨j, sz, ks, e, hk, rfl⟩ := je KS 0 m o hm; cases ho
theorem Jt {n : Nat} {p : Pl} (h : ng W VS n = some p) : n < VS.length := by
 have h : po VS n = some p := h; unfold po at h; cases hv : VS[n]? with
 | none => rw [hv] at h; simp at h
 | some v => exact (List.getElem?_eq_some_iff.1 hv).1
end
end Go.Sx
