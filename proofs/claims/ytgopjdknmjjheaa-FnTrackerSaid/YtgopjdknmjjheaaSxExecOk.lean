/-
  SX, PART 13: what the executor says is a run.
-/
import Derived.Test.YtgopjdknmjjheaaSxExec
namespace Go.Sx
open Go.RowKit
set_option linter.unusedVariables false
set_option linter.unusedSimpArgs false

def XCtr.toExt (P : Program) (X : XCtr) : Ext where
  fn f args nx p := X.fn f args nx = some p
  lp c fr nx p := ∃ f fn body k, P.funcs[f]? = some fn ∧ fn.body = some body ∧ (k, c) ∈ loopsOf body ∧ X.lp f k fr nx = some p

def InBody (P : Program) (f : FuncId) (l : List (Nat × Code)) : Prop := ∃ fn body, P.funcs[f]? = some fn ∧ fn.body = some body ∧ ∀ x ∈ l, x ∈ loopsOf body

def Fits (P : Program) : Cmd → Prop
  | .code f c _ => InBody P f (loopsOf c)
  | .loop f c _ => InBody P f (loopsOf c)
  | _ => True

def Judge (P : Program) (env : Env) (X : XCtr) (h : CHeap) (nx : Nat) (q : RR) : Cmd → Prop
  | .code f c fr => Ev P env (X.toExt P) (.code c fr (cden h) nx q.ex q.fr (cden q.h) q.nx q.ft)
  | .loop f c fr => Ev P env (X.toExt P) (.loop c fr (cden h) nx q.ex q.fr (cden q.h) q.nx q.ft)
  | .defs ds => Ev P env (X.toExt P) (.defs ds (cden h) nx (cden q.h) q.nx q.ft)
  | .fn dfr f args => Ev P env (X.toExt P) (.fn dfr f args (cden h) nx q.r (cden q.h) q.nx q.ft)

/-- New conditions are put ahead; if all hold, it is so. -/
def Fine (env : Env) (vcs vcs' : List Ob) (J : Prop) : Prop := (∃ new, vcs' = new ++ vcs) ∧ ((∀ e ∈ vcs', e.den env) → J)

theorem Fine.id {env : Env} {vcs : List Ob} {J : Prop} (h : J) : Fine env vcs vcs J := ⟨⟨[], rfl⟩, fun _ => h⟩
theorem Fine.mono {env : Env} {a b : List Ob} {J K : Prop} (h : Fine env a b J) (k : J → K) : Fine env a b K := ⟨h.1, fun hv => k (h.2 hv)⟩
theorem Fine.trans {env : Env} {a b c : List Ob} {J K L : Prop} (h : Fine env a b J) (k : Fine env b c K) (f : J → K → L) : Fine env a c L := by
  obtain ⟨⟨n1, e1⟩, h⟩ := h
  obtain ⟨⟨n2, e2⟩, k⟩ := k
  exact ⟨⟨n2 ++ n1, by rw [e2, e1]; simp⟩, fun hv => f (h fun e he => hv e (by rw [e2]; exact List.mem_append_right _ he)) (k hv)⟩

theorem cden_reserve : ∀ (L : List Nat) (h : CHeap), cden (reserveC L h) = reserve (cden h) L
  | [], h => by funext k; simp [reserveC, reserve]
  | n :: r, h => by
    unfold reserveC
    rw [cden_reserve r, cden_cput]
    funext k
    unfold reserve hput
    by_cases h1 : k ∈ r
    · simp [h1]
    · by_cases h2 : k = n
      · simp [h1, h2]
      · simp [h1, h2]

theorem cden_cfilter (D : List Nat) : ∀ (h : CHeap), cden (cfilter h D) = dropL (cden h) D
  | [] => by funext k; simp [cfilter, cden, cget, dropL]
  | (m, o) :: r => by
    have ih := congrFun (cden_cfilter D r)
    funext k
    have ihk := ih k
    unfold cfilter
    cases hm : inL m D with
    | true =>
      simp only [cond_true, ihk]
      unfold dropL cden
      simp only [cget]
      by_cases hk : k ∈ D
      · simp [hk]
      · have hne : Nat.beq m k = false := by
          rw [Bool.eq_false_iff]; intro e; rw [Nat.eq_of_beq_eq_true e] at hm; exact hk (inL_iff.1 hm)
        simp [hk, hne]
    | false =>
      simp only [cond_false]
      unfold dropL cden at ihk ⊢
      simp only [cget]
      cases he : Nat.beq m k with
      | true =>
        have hk : k ∉ D := by rw [← Nat.eq_of_beq_eq_true he]; intro h; rw [inL_iff.2 h] at hm; cases hm
        simp [hk]
      | false => simp [ihk]

theorem cden_cdrop (h : CHeap) (D : List Nat) : cden (cdrop h D) = dropL (cden h) D := by
  unfold cdrop
  cases D with
  | nil => funext k; simp [dropL]
  | cons n r => exact cden_cfilter _ h

theorem mem_stillResv {h : CHeap} : ∀ {L : List Nat} {m : Nat}, m ∈ stillResv h L → m ∈ L
  | [], m, hm => by simp [stillResv] at hm
  | n :: r, m, hm => by
    unfold stillResv at hm
    cases hc : isResv (cget h n) with
    | true =>
      rw [hc] at hm
      simp only [cond_true, List.mem_cons] at hm ⊢
      rcases hm with e | e
      · exact .inl e
      · exact .inr (mem_stillResv e)
    | false =>
      rw [hc] at hm
      exact List.mem_cons_of_mem _ (mem_stillResv hm)

theorem mem_allocs : ∀ {l : List Oper} {n m : Nat}, m ∈ allocsOf l n → n ≤ m ∧ m < n + l.length
  | [], n, m, h => by simp [allocsOf] at h
  | o :: r, n, m, h => by
    unfold allocsOf at h
    have hrest : m ∈ allocsOf r (n + 1) → n ≤ m ∧ m < n + (o :: r).length := fun h => by
      have := mem_allocs h
      simp only [List.length_cons]; omega
    cases ha : allocOp o.op with
    | true =>
      rw [ha] at h
      simp only [cond_true, List.mem_cons] at h
      rcases h with e | e
      · subst e; simp
      · exact hrest e
    | false => rw [ha] at h; exact hrest h

theorem wantX_ok {env : Env} {fs : Facts} (hf : fs.Hold env) {ops : Array Oper} {sl : List SV} {o : Oper} {b : Bool} (h : wantX fs ops.toList sl o = .ok b) : swant env ops sl o = some b := by
  unfold wantX at h
  unfold swant
  cases hg : o.guard with
  | none => rw [hg] at h; simpa using h
  | some q =>
    obtain ⟨j, want⟩ := q
    rw [hg] at h
    simp only [nth_eq, Array.getElem?_toList] at h ⊢
    cases hd : (ops[j]?).bind (·.dst) with
    | none => rw [hd] at h; cases h
    | some d =>
      rw [hd] at h
      simp only at h ⊢
      cases hs : sl[d]? with
      | none => rw [hs] at h; cases h
      | some x =>
        rw [hs] at h
        cases x with
        | bool e =>
          simp only at h ⊢
          cases hde : decideE fs e with
          | none => rw [hde] at h; cases h
          | some b' =>
            rw [hde] at h
            rw [decideE_ok hf hde]
            injection h with h
            subst h
            cases b' <;> cases want <;> rfl
        | tup l =>
          cases l with
          | nil => injection h with h; subst h; rfl
          | cons a l => cases h
        | _ => cases h

section
variable {P : Program} {env : Env} {fs : Facts} {X : XCtr}

def RecOk (P : Program) (env : Env) (X : XCtr) (rec : Cmd → CHeap → Nat → List Ob → Ex RR) : Prop :=
  ∀ cmd h nx vcs q, Fits P cmd → rec cmd h nx vcs = .ok q → Fine env vcs q.vcs (Judge P env X h nx q cmd)

def CallOk (P : Program) (env : Env) (X : XCtr) (call : FuncId → List SV → CHeap → Nat → List Ob → Ex RR) : Prop :=
  ∀ f args h nx vcs q, call f args h nx vcs = .ok q → Fine env vcs q.vcs (Ev P env (X.toExt P) (.fn false f args (cden h) nx q.r (cden q.h) q.nx q.ft))

theorem runOp_ok (hf : fs.Hold env) {call : FuncId → List SV → CHeap → Nat → List Ob → Ex RR} (hc : CallOk P env X call) {ops : Array Oper} {base i : Nat} {o : Oper} (ho : ops[i]? = some o)
    {fr : Fr} {h : CHeap} {nx : Nat} {vcs : List Ob} {q : OpOut} (hr : runOp P fs call ops.toList (base + i) o fr h nx vcs = .ok q) :
    Fine env vcs q.vcs (Ev P env (X.toExt P) (.op ops base i fr (cden h) nx q.fr (cden q.h) q.nx q.cl q.ft)) := by
  unfold runOp at hr
  cases hw : wantX fs ops.toList fr.sl o with
  | error e => rw [hw] at hr; cases hr
  | ok b =>
    rw [hw] at hr
    have hwant := wantX_ok (env := env) hf hw
    cases b with
    | false =>
      simp only at hr
      injection hr with hr
      subst hr
      exact .id (.opSkip ho hwant)
    | true =>
      simp only at hr
      cases hp : (opS P (base + i) (evalS fr.sl) o.op).run fs h vcs Foot.nil with
      | error e => rw [hp] at hr; cases hr
      | ok z =>
        rw [hp] at hr
        have hev : Fine env vcs z.vcs _ := Prog.run_ev hf _ hp
        obtain ⟨za, zh, zv, zf⟩ := z
        simp only at hr hev
        cases za with
        | val v =>
          simp only at hr
          injection hr with hr
          subst hr
          exact hev.mono fun he => .opVal ho hwant he
        | skip =>
          simp only at hr
          injection hr with hr
          subst hr
          exact hev.mono fun he => .opNone ho hwant he
        | defer fn cap args =>
          cases fn with
          | func g =>
            simp only at hr
            injection hr with hr
            subst hr
            exact hev.mono fun he => .opDefer ho hwant he
          | _ => cases hr
        | call g args =>
          simp only at hr
          cases hcl : call g args zh nx zv with
          | error e => rw [hcl] at hr; cases hr
          | ok rr =>
            rw [hcl] at hr
            simp only at hr
            injection hr with hr
            subst hr
            exact hev.trans (hc _ _ _ _ _ _ hcl) fun he hk => .opCall ho hwant he hk

theorem nth_append {α : Type} : ∀ (a b : List α), nth (a ++ b) a.length = nth b 0
  | [], b => rfl
  | _ :: a, b => by simpa [nth] using nth_append a b

/-- The operations from one on: their states. -/
theorem runOps_ok (hf : fs.Hold env) {call : FuncId → List SV → CHeap → Nat → List Ob → Ex RR} (hc : CallOk P env X call) {ops : Array Oper} {base : Nat} : ∀ (r : List Oper) (i : Nat),
    (∀ k, ops[i + k]? = r[k]?) → ∀ {fr : Fr} {h : CHeap} {nx : Nat} {vcs : List Ob} {z : OpsOut}, runOps P fs call ops.toList r (base + i) fr h nx vcs = .ok z →
    Fine env vcs z.vcs (z.log.length = r.length ∧ ∃ (S : Nat → Fr) (H : Nat → Heap) (N : Nat → Nat), S i = fr ∧ H i = cden h ∧ N i = nx ∧ S (i + r.length) = z.fr ∧ H (i + r.length) = cden z.h ∧ N (i + r.length) = z.nx ∧
      ∀ k, k < r.length → Ev P env (X.toExt P) (.op ops base (i + k) (S (i + k)) (H (i + k)) (N (i + k)) (S (i + k + 1)) (H (i + k + 1)) (N (i + k + 1)) (logC z.log k) (logF z.log k)))
  | [], i, _, fr, h, nx, vcs, z, hr => by
    simp only [runOps] at hr
    injection hr with hr
    subst hr
    exact .id ⟨rfl, fun _ => fr, fun _ => cden h, fun _ => nx, rfl, rfl, rfl, rfl, rfl, rfl, fun k hk => by simp at hk⟩
  | o :: r, i, hat, fr, h, nx, vcs, z, hr => by
    simp only [runOps] at hr
    cases hq : runOp P fs call ops.toList (base + i) o fr h nx vcs with
    | error e => rw [hq] at hr; cases hr
    | ok q =>
      rw [hq] at hr
      simp only at hr
      cases hz : runOps P fs call ops.toList r (base + i + 1) q.fr q.h q.nx q.vcs with
      | error e => rw [hz] at hr; cases hr
      | ok y =>
        rw [hz] at hr
        simp only at hr
        injection hr with hr
        subst hr
        have h0 := hat 0
        simp only [Nat.add_zero, List.getElem?_cons_zero] at h0
        have ih := runOps_ok hf hc (base := base) r (i + 1) (fun k => by have := hat (k + 1); simpa [Nat.add_assoc, Nat.add_comm 1 k] using this) (z := y) hz
        refine (runOp_ok hf hc h0 hq).trans ih ?_
        rintro hop ⟨hlen, S, H, N, e1, e2, e3, e4, e5, e6, hall⟩
        refine ⟨by simp [hlen], fun j => if j = i then fr else S j, fun j => if j = i then cden h else H j, fun j => if j = i then nx else N j, by simp, by simp, by simp, ?_, ?_, ?_, ?_⟩
        · have : i + (o :: r).length = i + 1 + r.length := by simp; omega
          rw [this]; simp only [if_neg (show ¬(i + 1 + r.length = i) by omega)]; exact e4
        · have : i + (o :: r).length = i + 1 + r.length := by simp; omega
          rw [this]; simp only [if_neg (show ¬(i + 1 + r.length = i) by omega)]; exact e5
        · have : i + (o :: r).length = i + 1 + r.length := by simp; omega
          rw [this]; simp only [if_neg (show ¬(i + 1 + r.length = i) by omega)]; exact e6
        · intro k hk
          cases k with
          | zero =>
            simp only [Nat.add_zero, if_true, if_neg (show ¬(i + 1 = i) by omega)]
            rw [e1, e2, e3]
            exact hop
          | succ k =>
            have := hall k (by simpa using hk)
            simp only [if_neg (show ¬(i + (k + 1) = i) by omega), if_neg (show ¬(i + (k + 1) + 1 = i) by omega)]
            have ea : i + 1 + k = i + (k + 1) := by omega
            rw [ea] at this
            exact this

theorem logSum_eq : ∀ (log : List (Foot × Bool)) (n : Nat), n = log.length → (log.flatMap (·.1.rd) = (Foot.sum (logF log) n).rd ∧ log.flatMap (·.1.wr) = (Foot.sum (logF log) n).wr)
  | [], n, h => by subst h; simp [Foot.sum]
  | x :: r, n, h => by
    subst h
    have ih := logSum_eq r r.length rfl
    simp only [Foot.sum, List.length_cons] at ih ⊢
    have hs : List.range (r.length + 1) = 0 :: (List.range r.length).map (· + 1) := by rw [List.range_succ_eq_map]
    rw [hs]
    simp only [List.flatMap_cons, List.flatMap_map]
    have e0 : logF (x :: r) 0 = x.1 := rfl
    have ek : ∀ k, logF (x :: r) (k + 1) = logF r k := fun k => rfl
    simp only [e0, ek]
    exact ⟨by rw [← ih.1], by rw [← ih.2]⟩

theorem mem_dedup : ∀ {l acc : List Nat} {n : Nat}, n ∈ dedup l acc ↔ n ∈ l ∨ n ∈ acc
  | [], acc, n => by simp [dedup]
  | a :: l, acc, n => by
    unfold dedup
    rw [mem_dedup]
    unfold addL
    cases h : inL a acc with
    | true =>
      have := inL_iff.1 h
      simp only [cond_true, List.mem_cons]
      constructor
      · rintro (h | h)
        · exact .inl (.inr h)
        · exact .inr h
      · rintro ((h | h) | h)
        · subst h; exact .inr this
        · exact .inl h
        · exact .inr h
    | false =>
      simp only [cond_false, List.mem_cons]
      constructor
      · rintro (h | h | h)
        · exact .inl (.inr h)
        · exact .inl (.inl h)
        · exact .inr h
      · rintro ((h | h) | h)
        · exact .inr (.inl h)
        · exact .inl h
        · exact .inr (.inr h)
theorem Foot.tidy_like (F : Foot) : F.Like F.tidy := ⟨fun n hn => by simp only [Foot.tidy, mem_dedup]; exact .inl hn, fun n => by simp [Foot.tidy, mem_dedup]⟩

theorem InBody.sub {f : FuncId} {a b : List (Nat × Code)} (h : InBody P f b) (hs : ∀ x ∈ a, x ∈ b) : InBody P f a := by
  obtain ⟨fn, body, h1, h2, h3⟩ := h
  exact ⟨fn, body, h1, h2, fun x hx => h3 x (hs x hx)⟩


theorem leaves_ok {ex : SExit} (h : leaves ex = true) : ex = .normal ∨ ex = .ret := by
  cases ex <;> simp [leaves] at h ⊢

theorem runStep_ok (hf : fs.Hold env) {rc : Cmd → CHeap → Nat → List Ob → Ex RR} (hr : RecOk P env X rc) : RecOk P env X (runStep P fs X rc) := by
  have hcall : CallOk P env X (fun g args h nx vcs => rc (.fn false g args) h nx vcs) := fun f args h nx vcs q hq => hr (.fn false f args) h nx vcs q trivial hq
  intro cmd h nx vcs q hfit hq
  cases cmd with
  | code f c fr =>
    simp only [Fits] at hfit
    cases c with
    | skip => simp only [runStep] at hq; injection hq with hq; subst hq; exact .id .skip
    | label l => simp only [runStep] at hq; injection hq with hq; subst hq; exact .id .label
    | ret => simp only [runStep] at hq; injection hq with hq; subst hq; exact .id .ret
    | exit id => simp only [runStep] at hq; injection hq with hq; subst hq; exact .id .exit
    | seq a b =>
      simp only [runStep] at hq
      cases h1 : rc (.code f a fr) h nx vcs with
      | error e => rw [h1] at hq; cases hq
      | ok y =>
        rw [h1] at hq
        have j1 := hr _ h nx vcs y (show Fits P (.code f a fr) from hfit.sub fun x hx => List.mem_append_left _ hx) h1
        obtain ⟨yex, yfr, yr, yh, ynx, yvcs, yft⟩ := y
        simp only at hq
        cases yex with
        | normal =>
          simp only at hq
          cases h2 : rc (.code f b yfr) yh ynx yvcs with
          | error e => rw [h2] at hq; cases hq
          | ok z =>
            rw [h2] at hq
            simp only at hq
            injection hq with hq
            subst hq
            exact j1.trans (hr _ yh ynx yvcs z (show Fits P (.code f b yfr) from hfit.sub fun x hx => List.mem_append_right _ hx) h2) fun a b => .seqN a b
        | _ =>
          simp only at hq
          injection hq with hq
          subst hq
          exact j1.mono fun a => .seqX (by intro e; cases e) a
    | cond x a b =>
      simp only [runStep] at hq
      cases hx : evalS fr.sl x with
      | none => rw [hx] at hq; cases hq
      | some s =>
        rw [hx] at hq
        cases s with
        | bool e =>
          simp only at hq
          cases hd : decideE fs e with
          | none => rw [hd] at hq; cases hq
          | some t =>
            rw [hd] at hq
            have hB := decideE_ok hf hd
            cases t with
            | true =>
              simp only at hq
              exact (hr _ h nx vcs q (show Fits P (.code f a fr) from hfit.sub fun x hx => List.mem_append_left _ hx) hq).mono fun j => .cond hx (by rw [if_pos hB]; exact j)
            | false =>
              simp only at hq
              exact (hr _ h nx vcs q (show Fits P (.code f b fr) from hfit.sub fun x hx => List.mem_append_right _ hx) hq).mono fun j => .cond hx (by rw [if_neg (by rw [hB]; simp)]; exact j)
        | _ => cases hq
    | block id a =>
      simp only [runStep] at hq
      cases h1 : rc (.code f a fr) h nx vcs with
      | error e => rw [h1] at hq; cases hq
      | ok y =>
        rw [h1] at hq
        have j1 := hr _ h nx vcs y (show Fits P (.code f a fr) from hfit) h1
        obtain ⟨yex, yfr, yr, yh, ynx, yvcs, yft⟩ := y
        simp only at hq
        cases hi : isExit id yex with
        | true =>
          rw [hi] at hq
          simp only [cond_true] at hq
          injection hq with hq
          subst hq
          refine j1.mono fun j => .blockX ?_
          cases yex <;> simp [isExit] at hi
          subst hi
          exact j
        | false =>
          rw [hi] at hq
          simp only [cond_false] at hq
          injection hq with hq
          subst hq
          exact j1.mono fun j => .block (by intro e; simp only at e; subst e; simp [isExit] at hi) j
    | loop a =>
      simp only [runStep] at hq
      cases hl : X.lp f ((keyOf a).getD 0) fr nx with
      | none =>
        rw [hl] at hq
        exact (hr _ h nx vcs q (show Fits P (.loop f a fr) from hfit.sub fun x hx => List.mem_cons_of_mem _ hx) hq).mono fun j => .loop j
      | some p =>
        rw [hl] at hq
        simp only at hq
        cases hp : p.run fs h vcs Foot.nil with
        | error e => rw [hp] at hq; cases hq
        | ok z =>
          rw [hp] at hq
          have hev : Fine env vcs z.vcs _ := Prog.run_ev hf _ hp
          obtain ⟨⟨ex, fr', nx'⟩, zh, zv, zf⟩ := z
          simp only at hq hev
          injection hq with hq
          subst hq
          obtain ⟨fn, body, h1, h2, h3⟩ := hfit
          exact hev.mono fun he => .extL (p := p) ⟨f, fn, body, _, h1, h2, h3 _ (List.mem_cons_self ..), hl⟩ he
    | region id ops draw =>
      simp only [runStep] at hq
      cases h1 : runOps P fs (fun g args h nx vcs => rc (.fn false g args) h nx vcs) ops.toList ops.toList nx fr (reserveC (allocsOf ops.toList nx) h) (nx + ops.toList.length) vcs with
      | error e => rw [h1] at hq; cases hq
      | ok z =>
        rw [h1] at hq
        simp only at hq
        have hops := runOps_ok (env := env) (X := X) hf hcall (ops := ops) (base := nx) ops.toList 0 (fun k => by simp) (z := z) h1
        cases hd : (cond draw (okDraw ops (logF z.log) (logC z.log)) true) with
        | false => rw [hd] at hq; cases hq
        | true =>
          rw [hd] at hq
          simp only [cond_true] at hq
          injection hq with hq
          subst hq
          refine hops.mono ?_
          rintro ⟨hlen, S, H, N, e1, e2, e3, e4, e5, e6, hall⟩
          have hsz : ops.toList.length = ops.size := Array.length_toList
          rw [hsz] at hlen e3 e4 e5 e6 hall
          simp only [Nat.zero_add] at e4 e5 e6 hall
          have hsum := logSum_eq z.log ops.size hlen.symm
          have ev := Ev.region (P := P) (env := env) (X := X.toExt P) (id := id) (ops := ops) (draw := draw) (h := cden h) (nx := nx) (L := allocsOf ops.toList nx) (D := stillResv z.h (allocsOf ops.toList nx))
            S H N (logF z.log) (logC z.log) (fun m hm => by have := mem_allocs hm; rw [hsz] at this; exact this) (fun m hm => mem_stillResv hm)
            (by rw [e2, cden_reserve]) e3 (fun i hi => hall i hi) (fun hdr => by rw [hdr] at hd; exact hd)
          rw [e1, e4, e5, e6, ← hsum.1, ← hsum.2, ← cden_cdrop] at ev
          exact ev
    | _ => simp only [runStep] at hq; cases hq
  | loop f c fr =>
    simp only [Fits] at hfit
    simp only [runStep] at hq
    cases h1 : rc (.code f c fr) h nx vcs with
    | error e => rw [h1] at hq; cases hq
    | ok y =>
      rw [h1] at hq
      have j1 := hr _ h nx vcs y (show Fits P (.code f c fr) from hfit) h1
      obtain ⟨yex, yfr, yr, yh, ynx, yvcs, yft⟩ := y
      simp only at hq
      cases yex with
      | normal =>
        simp only at hq
        cases h2 : rc (.loop f c yfr) yh ynx yvcs with
        | error e => rw [h2] at hq; cases hq
        | ok z =>
          rw [h2] at hq
          simp only at hq
          injection hq with hq
          subst hq
          exact j1.trans (hr _ yh ynx yvcs z (show Fits P (.loop f c yfr) from hfit) h2) fun a b => .loopN a b
      | _ =>
        simp only at hq
        injection hq with hq
        subst hq
        exact j1.mono fun a => .loopX (by intro e; cases e) a
  | defs ds =>
    simp only [runStep] at hq
    cases ds with
    | nil => simp only at hq; injection hq with hq; subst hq; exact .id .defN
    | cons d ds =>
      obtain ⟨g, args⟩ := d
      simp only at hq
      cases h1 : rc (.fn true g args) h nx vcs with
      | error e => rw [h1] at hq; cases hq
      | ok y =>
        rw [h1] at hq
        simp only at hq
        cases h2 : rc (.defs ds) y.h y.nx y.vcs with
        | error e => rw [h2] at hq; cases hq
        | ok z =>
          rw [h2] at hq
          simp only at hq
          injection hq with hq
          subst hq
          exact (hr (.fn true g args) h nx vcs y trivial h1).trans (hr (.defs ds) y.h y.nx y.vcs z trivial h2) fun a b => .defC a b
  | fn dfr f args =>
    simp only [runStep] at hq
    cases hx : (cond dfr none (X.fn f args nx)) with
    | some p =>
      rw [hx] at hq
      simp only at hq
      cases dfr with
      | true => cases hx
      | false =>
        cases hp : p.run fs h vcs Foot.nil with
        | error e => rw [hp] at hq; cases hq
        | ok z =>
          rw [hp] at hq
          have hev : Fine env vcs z.vcs _ := Prog.run_ev hf _ hp
          obtain ⟨⟨r, nx'⟩, zh, zv, zf⟩ := z
          simp only at hq hev
          injection hq with hq
          subst hq
          exact hev.mono fun he => .ext (p := p) hx he
    | none =>
      rw [hx] at hq
      simp only at hq
      cases hfn : P.funcs[f]? with
      | none => rw [hfn] at hq; cases hq
      | some fn =>
        rw [hfn] at hq
        simp only at hq
        cases hb : fn.body with
        | none => rw [hb] at hq; cases hq
        | some c =>
          rw [hb] at hq
          simp only at hq
          cases hle : Nat.ble args.length fn.ntmps with
          | false => rw [hle] at hq; cases hq
          | true =>
            rw [hle] at hq
            simp only [cond_true] at hq
            cases h1 : rc (.code f c ⟨args ++ repl (fn.ntmps - args.length) sundef, []⟩) h nx vcs with
            | error e => rw [h1] at hq; cases hq
            | ok y =>
              rw [h1] at hq
              simp only at hq
              have j1 := hr _ h nx vcs y (show Fits P (.code f c _) from ⟨fn, c, hfn, hb, fun x hx => hx⟩) h1
              cases hlv : (leaves y.ex && cond dfr (y.fr.df.isEmpty) true) with
              | false => rw [hlv] at hq; cases hq
              | true =>
                rw [hlv] at hq
                simp only [cond_true] at hq
                rw [Bool.and_eq_true] at hlv
                cases h2 : rc (.defs y.fr.df) y.h y.nx y.vcs with
                | error e => rw [h2] at hq; cases hq
                | ok z =>
                  rw [h2] at hq
                  simp only at hq
                  have j2 := hr (.defs y.fr.df) y.h y.nx y.vcs z trivial h2
                  cases h3 : (resS P fn y.fr.sl).run fs z.h z.vcs Foot.nil with
                  | error e => rw [h3] at hq; cases hq
                  | ok x =>
                    rw [h3] at hq
                    simp only at hq
                    have j3 : Fine env z.vcs x.vcs _ := Prog.run_ev hf _ h3
                    cases hw : x.ft.wr.isEmpty with
                    | false => rw [hw] at hq; cases hq
                    | true =>
                      rw [hw] at hq
                      simp only [cond_true] at hq
                      injection hq with hq
                      subst hq
                      refine (j1.trans j2 And.intro).trans j3 ?_
                      rintro ⟨a, b⟩ c3
                      have hwr : x.ft.wr = [] := by simpa using hw
                      have hsame : cden x.h = cden z.h := by
                        funext n
                        have := (prog_loc c3).1 n (by rw [hwr]; simp)
                        exact this
                      rw [hsame] at c3
                      have ev := Ev.fn (X := X.toExt P) (dfr := dfr) (D := []) (F := ((y.ft.add z.ft).add x.ft).tidy) hfn hb (Nat.le_of_ble_eq_true hle) a (leaves_ok hlv.1)
                        (fun hd => by rw [hd] at hlv; simpa using hlv.2) b c3 hwr (fun m hm => by cases hm) (Foot.tidy_like _)
                      have hd0 : dropL (cden z.h) [] = cden z.h := by funext n; simp [dropL]
                      rw [hd0] at ev
                      exact ev

theorem run_ok (hf : fs.Hold env) : ∀ n, RecOk P env X (run P fs X n)
  | 0 => fun cmd h nx vcs q _ hq => by cases hq
  | n + 1 => runStep_ok hf (run_ok hf n)

end
end Go.Sx
