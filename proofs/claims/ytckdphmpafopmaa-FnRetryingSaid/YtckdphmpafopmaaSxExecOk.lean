/-
  SX, PART 13: what the executor says is a run.
-/
import Derived.Test.YtckdphmpafopmaaSxExec
namespace Go.Sx
open Go.RowKit
set_option linter.unusedVariables false
set_option linter.unusedSimpArgs false

def XCtr.toExt (P : Program) (X : XCtr) : Ext where
  fn f args nx p := X.fn f args nx = some p
  lp c fr nx p := ∃ f fn body k, P.funcs[f]? = some fn ∧ fn.body = some body ∧ (k, c) ∈ loopsOf body ∧ X.lp f k fr nx = some p

def InBody (P : Program) (f : FuncId) (l : List (Nat × Code)) : Prop := ∃ fn body, P.funcs[f]? = some fn ∧ fn.body = some body ∧ ∀ x ∈ l, x ∈ loopsOf body

def Fits (P : Program) : Cmd → Prop
  | .code f c _ => InBody P f (loopsOf c)
  | .loop f c _ => InBody P f (loopsOf c)
  | _ => True

def Judge (P : Program) (env : Env) (X : XCtr) (h : CHeap) (nx : Nat) (q : RR) : Cmd → Prop
  | .code f c fr => Ev P env (X.toExt P) (.code c fr (cden h) nx q.ex q.fr (cden q.h) q.nx q.ft)
  | .loop f c fr => Ev P env (X.toExt P) (.loop c fr (cden h) nx q.ex q.fr (cden q.h) q.nx q.ft)
  | .defs ds => Ev P env (X.toExt P) (.defs ds (cden h) nx (cden q.h) q.nx q.ft)
  | .fn dfr f args => Ev P env (X.toExt P) (.fn dfr f args (cden h) nx q.r (cden q.h) q.nx q.ft)

/-- New conditions are put ahead; if all hold, it is so. -/
def Fine (env : Env) (vcs vcs' : List Ob) (J : Prop) : Prop := (∃ new, vcs' = new ++ vcs) ∧ ((∀ e ∈ vcs', e.den env) → J)

theorem Fine.id {env : Env} {vcs : List Ob} {J : Prop} (h : J) : Fine env vcs vcs J := ⟨⟨[], rfl⟩, fun _ => h⟩
theorem Fine.mono {env : Env} {a b : List Ob} {J K : Prop} (h : Fine env a b J) (k : J → K) : Fine env a b K := ⟨h.1, fun hv => k (h.2 hv)⟩
theorem Fine.trans {env : Env} {a b c : List Ob} {J K L : Prop} (h : Fine env a b J) (k : Fine env b c K) (f : J → K → L) : Fine env a c L := by
  obtain ⟨⟨n1, e1⟩, h⟩ := h
  obtain ⟨⟨n2, e2⟩, k⟩ := k
  exact ⟨⟨n2 ++ n1, by rw [e2, e1]; simp⟩, fun hv => f (h fun e he => hv e (by rw [e2]; exact List.mem_append_right _ he)) (k hv)⟩

theorem cden_reserve : ∀ (L : List Nat) (h : CHeap), cden (reserveC L h) = reserve (cden h) L
  | [], h => by funext k; simp [reserveC, reserve]
  | n :: r, h => by
    unfold reserveC
    rw [cden_reserve r, cden_cput]
    funext k
    unfold reserve hput
    by_cases h1 : k ∈ r
    · simp [h1]
    · by_cases h2 : k = n
      · simp [h1, h2]
      · simp [h1, h2]

theorem cden_cfilter (D : List Nat) : ∀ (h : CHeap), cden (cfilter h D) = dropL (cden h) D
  | [] => by funext k; simp [cfilter, cden, cget, dropL]
  | (m, o) :: r => by
    have ih := congrFun (cden_cfilter D r)
    funext k
    have ihk := ih k
    unfold cfilter
    cases hm : inL m D with
    | true =>
      simp only [cond_true, ihk]
      unfold dropL cden
      simp only [cget]
      by_cases hk : k ∈ D
      · simp [hk]
      · have hne : Nat.beq m k = false := by
          rw [Bool.eq_false_iff]; intro e; rw [Nat.eq_of_beq_eq_true e] at hm; exact hk (inL_iff.1 hm)
        simp [hk, hne]
    | false =>
      simp only [cond_false]
      unfold dropL cden at ihk ⊢
      simp only [cget]
      cases he : Nat.beq m k with
      | true =>
        have hk : k ∉ D := by rw [← Nat.eq_of_beq_eq_true he]; intro h; rw [inL_iff.2 h] at hm; cases hm
        simp [hk]
      | false => simp [ihk]

theorem cden_cdrop (h : CHeap) (D : List Nat) : cden (cdrop h D) = dropL (cden h) D := by
  unfold cdrop
  cases D with
  | nil => funext k; simp [dropL]
  | cons n r => exact cden_cfilter _ h

theorem mem_stillResv {h : CHeap} : ∀ {L : List Nat} {m : Nat}, m ∈ stillResv h L → m ∈ L
  | [], m, hm => by simp [stillResv] at hm
  | n :: r, m, hm => by
    unfold stillResv at hm
    cases hc : isResv (cget h n) with
    | true =>
      rw [hc] at hm
      simp only [cond_true, List.mem_cons] at hm ⊢
      rcases hm with e | e
      · exact .inl e
      · exact .inr (mem_stillResv e)
    | false =>
      rw [hc] at hm
      exact List.mem_cons_of_mem _ (mem_stillResv hm)

theorem mem_allocs : ∀ {l : List Oper} {n m : Nat}, m ∈ allocsOf l n → n ≤ m ∧ m < n + l.length
  | [], n, m, h => by simp [allocsOf] at h
  | o :: r, n, m, h => by
    unfold allocsOf at h
    have hrest : m ∈ allocsOf r (n + 1) → n ≤ m ∧ m < n + (o :: r).length := fun h => by
      have := mem_allocs h
      simp only [List.length_cons]; omega
    cases ha : allocOp o.op with
    | true =>
      rw [ha] at h
      simp only [cond_true, List.mem_cons] at h
      rcases h with e | e
      · subst e; simp
      · exact hrest e
    | false => rw [ha] at h; exact hrest h

/-! ### paths -/
theorem holds_cons {env : Env} {fs : Facts} {e : E} {b : Bool} (h : (e.den env).B = b) (k : fs.Hold env) : Facts.Hold env ((e, b) :: fs) := fun e' b' hm => by
  rcases List.mem_cons.1 hm with h1 | h1
  · injection h1 with h1 h2; subst h1; subst h2; exact h
  · exact k e' b' h1
theorem contra_ok {env : Env} {fs : Facts} (hf : fs.Hold env) : ∀ {r : Facts}, r.Hold env → contra fs r = false
  | [], _ => rfl
  | (e, b) :: r, hr => by
    have ih := contra_ok hf (r := r) fun e b hm => hr e b (List.mem_cons_of_mem _ hm)
    unfold contra
    cases compE e with
    | false => exact ih
    | true =>
      simp only [cond_true]
      split
      · rename_i c hc
        have h1 := decideE_ok hf hc
        have h2 := hr e b (List.mem_cons_self ..)
        rw [h1] at h2
        subst h2
        cases c <;> exact ih
      · exact ih
/-- One of the paths is gone. -/
def OneOf {α : Type} (env : Env) (l : List (Facts × α)) (Q : α → Prop) : Prop := ∃ x ∈ l, x.1.Hold env ∧ Q x.2
theorem OneOf.single {α : Type} {env : Env} {fs : Facts} {a : α} {Q : α → Prop} (hf : fs.Hold env) (h : Q a) : OneOf env [(fs, a)] Q := ⟨_, List.mem_singleton.2 rfl, hf, h⟩
theorem OneOf.mono {α : Type} {env : Env} {l : List (Facts × α)} {Q R : α → Prop} (h : OneOf env l Q) (k : ∀ a, Q a → R a) : OneOf env l R := by
  obtain ⟨x, h1, h2, h3⟩ := h; exact ⟨x, h1, h2, k _ h3⟩
theorem goL_ok {α β : Type} {env : Env} {f : Facts → α → Ps β} {Q : α → Prop} {R : β → Prop} (hf : ∀ fs a L, f fs a = .ok L → fs.Hold env → Q a → OneOf env L R) : ∀ {l : List (Facts × α)} {L : List (Facts × β)}, goL f l = .ok L → OneOf env l Q → OneOf env L R
  | [], _, _, ⟨x, hx, _⟩ => by cases hx
  | (fs, a) :: r, L, h, ⟨x, hx, h1, h2⟩ => by
    simp only [goL] at h
    cases hfa : f fs a with
    | error e => rw [hfa] at h; cases h
    | ok y =>
      rw [hfa] at h
      simp only at h
      cases hg : goL f r with
      | error e => rw [hg] at h; cases h
      | ok z =>
        rw [hg] at h
        simp only at h
        injection h with h
        subst h
        rcases List.mem_cons.1 hx with rfl | hx
        · obtain ⟨q, q1, q2, q3⟩ := hf _ _ _ hfa h1 h2
          exact ⟨q, List.mem_append_left _ q1, q2, q3⟩
        · obtain ⟨q, q1, q2, q3⟩ := goL_ok hf hg ⟨x, hx, h1, h2⟩
          exact ⟨q, List.mem_append_right _ q1, q2, q3⟩
theorem bindP_ok {α β : Type} {env : Env} {p : Ps α} {f : Facts → α → Ps β} {Q : α → Prop} {R : β → Prop} {L : List (Facts × β)} (h : bindP p f = .ok L) (hp : ∀ l, p = .ok l → OneOf env l Q) (hf : ∀ fs a L, f fs a = .ok L → fs.Hold env → Q a → OneOf env L R) : OneOf env L R := by
  unfold bindP at h
  cases hpe : p with
  | error e => rw [hpe] at h; cases h
  | ok l => rw [hpe] at h; exact goL_ok hf h (hp l hpe)
theorem splitE_ok {env : Env} {e : E} : ∀ {n : Nat} {fs : Facts} {l : List (Facts × Bool)}, fs.Hold env → splitE n fs e = .ok l → OneOf env l fun b => (e.den env).B = b
  | 0, _, _, _, h => by cases h
  | n + 1, fs, l, hf, h => by
    unfold splitE at h
    cases hd : decideE fs e with
    | some b =>
      rw [hd] at h
      simp only at h
      injection h with h
      subst h
      exact .single hf (decideE_ok hf hd)
    | none =>
      rw [hd] at h
      simp only at h
      cases h1 : (cond (contra ((coreE fs e, true) :: fs) fs) (.ok []) (splitE n ((coreE fs e, true) :: fs) e) : Ps Bool) with
      | error m => rw [h1] at h; cases h
      | ok a =>
        rw [h1] at h
        simp only at h
        cases h2 : (cond (contra ((coreE fs e, false) :: fs) fs) (.ok []) (splitE n ((coreE fs e, false) :: fs) e) : Ps Bool) with
        | error m => rw [h2] at h; cases h
        | ok b =>
          rw [h2] at h
          simp only at h
          injection h with h
          subst h
          cases hB : ((coreE fs e).den env).B with
          | true =>
            rw [contra_ok (holds_cons hB hf) hf] at h1
            obtain ⟨x, q1, q2, q3⟩ := splitE_ok (holds_cons hB hf) h1
            exact ⟨x, List.mem_append_left _ q1, q2, q3⟩
          | false =>
            rw [contra_ok (holds_cons hB hf) hf] at h2
            obtain ⟨x, q1, q2, q3⟩ := splitE_ok (holds_cons hB hf) h2
            exact ⟨x, List.mem_append_right _ q1, q2, q3⟩
theorem Prog.runF_ev {α : Type} {env : Env} {n : Nat} : ∀ (p : Prog α) {fs : Facts} {h : CHeap} {vcs : List Ob} {ft : Foot} {l : List (Facts × ROut α)}, fs.Hold env →
    p.runF n fs h vcs ft = .ok l → OneOf env l fun o => Fine env vcs o.vcs (p.Ev env (cden h) o.a (cden o.h) ft o.ft)
  | .ret a, fs, h, vcs, ft, l, hf, hr => by simp only [runF] at hr; injection hr with hr; subst hr; exact .single hf (.id ⟨rfl, rfl, rfl⟩)
  | .fail m, fs, h, vcs, ft, l, hf, hr => by simp only [runF] at hr; cases hr
  | .get m k, fs, h, vcs, ft, l, hf, hr => by
    simp only [runF] at hr
    cases hg : cget h m with
    | none => rw [hg] at hr; cases hr
    | some x =>
      rw [hg] at hr
      exact (runF_ev (k x) hf hr).mono fun o ho => ho.mono fun he => ⟨x, hg, he⟩
  | .put m x k, fs, h, vcs, ft, l, hf, hr => by
    simp only [runF] at hr
    exact (runF_ev k hf hr).mono fun o ho => ho.mono fun he => by unfold Ev; rw [← cden_cput]; exact he
  | .vc e k, fs, h, vcs, ft, l, hf, hr => by
    simp only [runF] at hr
    cases hd : decideO fs e with
    | some b =>
      cases b with
      | true =>
        rw [hd] at hr
        exact (runF_ev k hf hr).mono fun o ho => ho.mono fun he => ⟨decideO_ok hf hd, he⟩
      | false => rw [hd] at hr; cases hr
    | none =>
      rw [hd] at hr
      refine (runF_ev k hf hr).mono fun o ho => ?_
      obtain ⟨⟨new, h1⟩, h2⟩ := ho
      exact ⟨⟨new ++ [e], by rw [h1]; simp⟩, fun hv => ⟨hv e (by rw [h1]; simp), h2 hv⟩⟩
  | .dec e k, fs, h, vcs, ft, l, hf, hr => by
    simp only [runF] at hr
    cases hs : splitE n fs e with
    | error m => rw [hs] at hr; cases hr
    | ok bs =>
      rw [hs] at hr
      refine goL_ok (fun fs' b L hL hf' hb => ?_) hr (splitE_ok hf hs)
      exact (runF_ev (k b) hf' hL).mono fun o ho => ho.mono fun he => by
        unfold Ev
        rw [hb]; exact he

theorem wantX_ok {env : Env} {fs : Facts} {n : Nat} (hf : fs.Hold env) {ops : Array Oper} {sl : List SV} {o : Oper} {l : List (Facts × Bool)} (h : wantX n fs ops.toList sl o = .ok l) : OneOf env l fun b => swant env ops sl o = some b := by
  unfold wantX at h
  unfold swant
  cases hg : o.guard with
  | none => rw [hg] at h; simp only at h; injection h with h; subst h; exact .single hf rfl
  | some q =>
    obtain ⟨j, want⟩ := q
    rw [hg] at h
    simp only [nth_eq, Array.getElem?_toList] at h ⊢
    cases hd : (ops[j]?).bind (·.dst) with
    | none => rw [hd] at h; cases h
    | some d =>
      rw [hd] at h
      simp only at h ⊢
      cases hs : sl[d]? with
      | none => rw [hs] at h; cases h
      | some x =>
        rw [hs] at h
        cases x with
        | bool e =>
          simp only at h ⊢
          refine bindP_ok h (fun l hl => splitE_ok hf hl) fun fs' b L hL hf' hb => ?_
          injection hL with hL
          subst hL
          refine .single hf' ?_
          rw [hb]
          cases b <;> cases want <;> rfl
        | tup l =>
          cases l with
          | nil => injection h with h; subst h; exact .single hf rfl
          | cons a l => cases h
        | _ => cases h

section
variable {P : Program} {env : Env} {X : XCtr} {n : Nat}

def RecOk (P : Program) (env : Env) (X : XCtr) (rec : Rec) : Prop :=
  ∀ cmd fs h nx vcs l, Fits P cmd → fs.Hold env → rec cmd fs h nx vcs = .ok l → OneOf env l fun q => Fine env vcs q.vcs (Judge P env X h nx q cmd)

def CallOk (P : Program) (env : Env) (X : XCtr) (call : Call) : Prop :=
  ∀ fs f args h nx vcs l, fs.Hold env → call fs f args h nx vcs = .ok l → OneOf env l fun q => Fine env vcs q.vcs (Ev P env (X.toExt P) (.fn false f args (cden h) nx q.r (cden q.h) q.nx q.ft))

theorem runOp_ok {call : Call} (hc : CallOk P env X call) {ops : Array Oper} {base i : Nat} {o : Oper} (ho : ops[i]? = some o)
    {fs : Facts} (hf : fs.Hold env) {fr : Fr} {h : CHeap} {nx : Nat} {vcs : List Ob} {l : List (Facts × OpOut)} (hr : runOp P n call ops.toList (base + i) o fs fr h nx vcs = .ok l) :
    OneOf env l fun q => Fine env vcs q.vcs (Ev P env (X.toExt P) (.op ops base i fr (cden h) nx q.fr (cden q.h) q.nx q.cl q.ft)) := by
  unfold runOp at hr
  refine bindP_ok hr (fun l hl => wantX_ok hf hl) fun fs' b L hL hf' hwant => ?_
  cases b with
  | false =>
    simp only at hL
    injection hL with hL
    subst hL
    exact .single hf' (.id (.opSkip ho hwant))
  | true =>
    simp only at hL
    refine bindP_ok hL (fun l hl => Prog.runF_ev _ hf' hl) fun fs2 z L2 hL2 hf2 hev => ?_
    obtain ⟨za, zh, zv, zf⟩ := z
    simp only at hL2 hev
    cases za with
    | val v =>
      simp only at hL2
      injection hL2 with hL2
      subst hL2
      exact .single hf2 (hev.mono fun he => .opVal ho hwant he)
    | skip =>
      simp only at hL2
      injection hL2 with hL2
      subst hL2
      exact .single hf2 (hev.mono fun he => .opNone ho hwant he)
    | defer fn cap args =>
      cases fn with
      | func g =>
        simp only at hL2
        injection hL2 with hL2
        subst hL2
        exact .single hf2 (hev.mono fun he => .opDefer ho hwant he)
      | _ => cases hL2
    | call g args =>
      simp only at hL2
      refine bindP_ok hL2 (fun l hl => hc _ _ _ _ _ _ _ hf2 hl) fun fs3 rr L3 hL3 hf3 hk => ?_
      injection hL3 with hL3
      subst hL3
      exact .single hf3 (hev.trans hk fun he hk => .opCall ho hwant he hk)

theorem nth_append {α : Type} : ∀ (a b : List α), nth (a ++ b) a.length = nth b 0
  | [], b => rfl
  | _ :: a, b => by simpa [nth] using nth_append a b

/-- The operations from one on: their states. -/
theorem runOps_ok {call : Call} (hc : CallOk P env X call) {ops : Array Oper} {base : Nat} : ∀ (r : List Oper) (i : Nat),
    (∀ k, ops[i + k]? = r[k]?) → ∀ {fs : Facts} {fr : Fr} {h : CHeap} {nx : Nat} {vcs : List Ob} {l : List (Facts × OpsOut)}, fs.Hold env → runOps P n call ops.toList r (base + i) fs fr h nx vcs = .ok l →
    OneOf env l fun z => Fine env vcs z.vcs (z.log.length = r.length ∧ ∃ (S : Nat → Fr) (H : Nat → Heap) (N : Nat → Nat), S i = fr ∧ H i = cden h ∧ N i = nx ∧ S (i + r.length) = z.fr ∧ H (i + r.length) = cden z.h ∧ N (i + r.length) = z.nx ∧
      ∀ k, k < r.length → Ev P env (X.toExt P) (.op ops base (i + k) (S (i + k)) (H (i + k)) (N (i + k)) (S (i + k + 1)) (H (i + k + 1)) (N (i + k + 1)) (logC z.log k) (logF z.log k)))
  | [], i, _, fs, fr, h, nx, vcs, l, hf, hr => by
    simp only [runOps] at hr
    injection hr with hr
    subst hr
    exact .single hf (.id ⟨rfl, fun _ => fr, fun _ => cden h, fun _ => nx, rfl, rfl, rfl, rfl, rfl, rfl, fun k hk => by simp at hk⟩)
  | o :: r, i, hat, fs, fr, h, nx, vcs, l, hf, hr => by
    simp only [runOps] at hr
    have h0 := hat 0
    simp only [Nat.add_zero, List.getElem?_cons_zero] at h0
    refine bindP_ok hr (fun l hl => runOp_ok hc h0 hf hl) fun fs1 q L1 hL1 hf1 hop => ?_
    refine bindP_ok hL1 (fun l hl => runOps_ok hc (base := base) r (i + 1) (fun k => by have := hat (k + 1); simpa [Nat.add_assoc, Nat.add_comm 1 k] using this) hf1 hl) fun fs2 y L2 hL2 hf2 ih => ?_
    injection hL2 with hL2
    subst hL2
    refine .single hf2 (hop.trans ih ?_)
    rintro hop ⟨hlen, S, H, N, e1, e2, e3, e4, e5, e6, hall⟩
    refine ⟨by simp [hlen], fun j => if j = i then fr else S j, fun j => if j = i then cden h else H j, fun j => if j = i then nx else N j, by simp, by simp, by simp, ?_, ?_, ?_, ?_⟩
    · have : i + (o :: r).length = i + 1 + r.length := by simp; omega
      rw [this]; simp only [if_neg (show ¬(i + 1 + r.length = i) by omega)]; exact e4
    · have : i + (o :: r).length = i + 1 + r.length := by simp; omega
      rw [this]; simp only [if_neg (show ¬(i + 1 + r.length = i) by omega)]; exact e5
    · have : i + (o :: r).length = i + 1 + r.length := by simp; omega
      rw [this]; simp only [if_neg (show ¬(i + 1 + r.length = i) by omega)]; exact e6
    · intro k hk
      cases k with
      | zero =>
        simp only [Nat.add_zero, if_true, if_neg (show ¬(i + 1 = i) by omega)]
        rw [e1, e2, e3]
        exact hop
      | succ k =>
        have := hall k (by simpa using hk)
        simp only [if_neg (show ¬(i + (k + 1) = i) by omega), if_neg (show ¬(i + (k + 1) + 1 = i) by omega)]
        have ea : i + 1 + k = i + (k + 1) := by omega
        rw [ea] at this
        exact this

theorem logSum_eq : ∀ (log : List (Foot × Bool)) (n : Nat), n = log.length → (log.flatMap (·.1.rd) = (Foot.sum (logF log) n).rd ∧ log.flatMap (·.1.wr) = (Foot.sum (logF log) n).wr)
  | [], n, h => by subst h; simp [Foot.sum]
  | x :: r, n, h => by
    subst h
    have ih := logSum_eq r r.length rfl
    simp only [Foot.sum, List.length_cons] at ih ⊢
    have hs : List.range (r.length + 1) = 0 :: (List.range r.length).map (· + 1) := by rw [List.range_succ_eq_map]
    rw [hs]
    simp only [List.flatMap_cons, List.flatMap_map]
    have e0 : logF (x :: r) 0 = x.1 := rfl
    have ek : ∀ k, logF (x :: r) (k + 1) = logF r k := fun k => rfl
    simp only [e0, ek]
    exact ⟨by rw [← ih.1], by rw [← ih.2]⟩

theorem mem_dedup : ∀ {l acc : List Nat} {n : Nat}, n ∈ dedup l acc ↔ n ∈ l ∨ n ∈ acc
  | [], acc, n => by simp [dedup]
  | a :: l, acc, n => by
    unfold dedup
    rw [mem_dedup]
    unfold addL
    cases h : inL a acc with
    | true =>
      have := inL_iff.1 h
      simp only [cond_true, List.mem_cons]
      constructor
      · rintro (h | h)
        · exact .inl (.inr h)
        · exact .inr h
      · rintro ((h | h) | h)
        · subst h; exact .inr this
        · exact .inl h
        · exact .inr h
    | false =>
      simp only [cond_false, List.mem_cons]
      constructor
      · rintro (h | h | h)
        · exact .inl (.inr h)
        · exact .inl (.inl h)
        · exact .inr h
      · rintro ((h | h) | h)
        · exact .inr (.inl h)
        · exact .inl h
        · exact .inr (.inr h)
theorem Foot.tidy_like (F : Foot) : F.Like F.tidy := ⟨fun n hn => by simp only [Foot.tidy, mem_dedup]; exact .inl hn, fun n => by simp [Foot.tidy, mem_dedup]⟩

theorem InBody.sub {f : FuncId} {a b : List (Nat × Code)} (h : InBody P f b) (hs : ∀ x ∈ a, x ∈ b) : InBody P f a := by
  obtain ⟨fn, body, h1, h2, h3⟩ := h
  exact ⟨fn, body, h1, h2, fun x hx => h3 x (hs x hx)⟩


theorem mem_loud : ∀ {log : List (Foot × Bool)} {k i : Nat} {F : Foot} {c : Bool}, log[i]? = some (F, c) → quietF F c = false → (k + i, F, c) ∈ loudL log k
  | [], _, _, _, _, h, _ => by simp at h
  | (G, d) :: r, k, 0, F, c, h, hq => by
    simp only [List.getElem?_cons_zero, Option.some.injEq, Prod.mk.injEq] at h
    obtain ⟨rfl, rfl⟩ := h
    unfold loudL
    rw [hq]
    exact List.mem_cons_self ..
  | (G, d) :: r, k, i + 1, F, c, h, hq => by
    have := mem_loud (k := k + 1) (log := r) (i := i) (by simpa using h) hq
    rw [show k + 1 + i = k + (i + 1) by omega] at this
    unfold loudL
    cases quietF G d with
    | true => exact this
    | false => exact List.mem_cons_of_mem _ this
theorem loudL_lt : ∀ {log : List (Foot × Bool)} {k : Nat} {x : Nat × Foot × Bool}, x ∈ loudL log k → k ≤ x.1
  | [], _, _, h => by cases h
  | (G, d) :: r, k, x, h => by
    unfold loudL at h
    cases hq : quietF G d with
    | true => rw [hq] at h; have := loudL_lt (log := r) h; omega
    | false =>
      rw [hq] at h
      rcases List.mem_cons.1 h with rfl | h
      · exact Nat.le_refl _
      · have := loudL_lt (log := r) h; omega
theorem loudOk_pair {ms : List Nat} : ∀ {log : List (Foot × Bool)} {k : Nat}, loudOk ms (loudL log k) = true → ∀ {x y : Nat × Foot × Bool}, x ∈ loudL log k → y ∈ loudL log k → x.1 < y.1 → Nat.testBit (ms.getD y.1 0) x.1 = true ∨ calmF x.2.1 y.2.1 x.2.2 y.2.2 = true
  | [], _, _, x, _, hx, _, _ => by cases hx
  | (G, d) :: r, k, h, x, y, hx, hy, hlt => by
    unfold loudL at h hx hy
    cases hq : quietF G d with
    | true => rw [hq] at h hx hy; exact loudOk_pair (log := r) h hx hy hlt
    | false =>
      rw [hq] at h hx hy
      simp only [cond_false, loudOk, Bool.and_eq_true] at h
      rcases List.mem_cons.1 hx with rfl | hx
      · rcases List.mem_cons.1 hy with rfl | hy
        · exact absurd hlt (Nat.lt_irrefl _)
        · have := List.all_eq_true.1 h.1 y hy
          simp only at this ⊢
          cases ht : Nat.testBit (ms.getD y.1 0) k with
          | true => exact .inl rfl
          | false => rw [ht] at this; exact .inr this
      · rcases List.mem_cons.1 hy with rfl | hy
        · have := loudL_lt hx
          simp only at hlt
          omega
        · exact loudOk_pair (log := r) h.2 hx hy hlt
theorem apartL_nil {a : List Nat} : apartL a [] = true := by unfold apartL inL; simp
theorem okDrawF_ok {ops : Array Oper} {log : List (Foot × Bool)} (h : okDrawF ops log = true) : okDraw ops (logF log) (logC log) = true := by
  unfold okDrawF at h
  rw [Bool.and_eq_true] at h
  obtain ⟨h1, h2⟩ := h
  unfold drawS at h1
  rw [Bool.and_eq_true] at h1
  obtain ⟨h0, h1⟩ := h1
  unfold okDraw
  rw [Bool.and_eq_true]
  refine ⟨h0, List.all_eq_true.2 fun j hj => List.all_eq_true.2 fun i hi => ?_⟩
  have hs := List.all_eq_true.1 (List.all_eq_true.1 h1 j hj) i hi
  have hij : i < j := List.mem_range.1 hi
  unfold okPair
  cases hoi : ops[i]? with
  | none => rfl
  | some oi =>
    cases hoj : ops[j]? with
    | none => rfl
    | some oj =>
      rw [hoi, hoj] at hs
      simp only at hs ⊢
      cases ht : Nat.testBit ((masks ops).getD j 0) i with
      | true => rfl
      | false =>
        rw [ht] at hs
        simp only [Bool.false_or] at hs
        show (!clash ops oi oj (logF log i) (logF log j) (logC log i) (logC log j)) = true
        have calm : calmF (logF log i) (logF log j) (logC log i) (logC log j) = true := by
          have get : ∀ k, (logF log k = Foot.nil ∧ logC log k = false) ∨ log[k]? = some (logF log k, logC log k) := fun k => by
            unfold logF logC
            rw [nth_eq]
            cases log[k]? with
            | none => exact .inl ⟨rfl, rfl⟩
            | some x => exact .inr rfl
          have quiet : ∀ {F : Foot} {c : Bool}, quietF F c = true → F = Foot.nil ∧ c = false := by
            intro F c hq
            simp only [quietF, Bool.and_eq_true, List.isEmpty_iff, Bool.not_eq_true'] at hq
            obtain ⟨⟨a, b⟩, c⟩ := hq
            refine ⟨?_, c⟩
            cases F; simp only at a b; subst a; subst b; rfl
          have leftN : ∀ {F : Foot} {c : Bool}, calmF Foot.nil F false c = true := by intro F c; unfold calmF Foot.nil; simp [apartL]
          have rightN : ∀ {F : Foot} {c : Bool}, calmF F Foot.nil c false = true := by intro F c; unfold calmF Foot.nil; simp [apartL_nil]
          have ci := get i
          have cj := get j
          rcases ci with ⟨a, b⟩ | ci
          · rw [a, b]; exact leftN
          · rcases cj with ⟨a, b⟩ | cj
            · rw [a, b]; exact rightN
            · cases qi : quietF (logF log i) (logC log i) with
              | true => obtain ⟨a, b⟩ := quiet qi; rw [a, b]; exact leftN
              | false =>
                cases qj : quietF (logF log j) (logC log j) with
                | true => obtain ⟨a, b⟩ := quiet qj; rw [a, b]; exact rightN
                | false =>
                  have mi := mem_loud (k := 0) ci qi
                  have mj := mem_loud (k := 0) cj qj
                  rw [Nat.zero_add] at mi mj
                  rcases loudOk_pair h2 mi mj hij with h | h
                  · simp only at h; rw [ht] at h; cases h
                  · exact h
        unfold clash
        unfold calmF at calm
        simp only [Bool.and_eq_true] at calm
        obtain ⟨⟨⟨a, b⟩, c⟩, d⟩ := calm
        rw [hs, a, b, c]
        simpa using d

theorem leaves_ok {ex : SExit} (h : leaves ex = true) : ex = .normal ∨ ex = .ret := by
  cases ex <;> simp [leaves] at h ⊢

theorem runStep_ok {rc : Rec} (hr : RecOk P env X rc) : RecOk P env X (runStep P n X rc) := by
  have hcall : CallOk P env X (fun fs g args h nx vcs => rc (.fn false g args) fs h nx vcs) := fun fs f args h nx vcs l hf hq => hr (.fn false f args) fs h nx vcs l trivial hf hq
  intro cmd fs h nx vcs l hfit hf hq
  have one : ∀ {fs' : Facts} {q : RR} {L : List (Facts × RR)} {Q : RR → Prop}, (Except.ok [(fs', q)] : Ps RR) = .ok L → fs'.Hold env → Q q → OneOf env L Q := by
    intro fs' q L Q h hf hQ
    injection h with h
    subst h
    exact .single hf hQ
  cases cmd with
  | code f c fr =>
    simp only [Fits] at hfit
    cases c with
    | skip => simp only [runStep] at hq; exact one hq hf (.id .skip)
    | label l => simp only [runStep] at hq; exact one hq hf (.id .label)
    | ret => simp only [runStep] at hq; exact one hq hf (.id .ret)
    | exit id => simp only [runStep] at hq; exact one hq hf (.id .exit)
    | seq a b =>
      simp only [runStep] at hq
      refine bindP_ok hq (fun l hl => hr _ fs h nx vcs l (show Fits P (.code f a fr) from hfit.sub fun x hx => List.mem_append_left _ hx) hf hl) fun fs1 y L1 hL1 hf1 j1 => ?_
      obtain ⟨yex, yfr, yr, yh, ynx, yvcs, yft⟩ := y
      simp only at hL1
      cases yex with
      | normal =>
        simp only at hL1
        refine bindP_ok hL1 (fun l hl => hr _ fs1 yh ynx yvcs l (show Fits P (.code f b yfr) from hfit.sub fun x hx => List.mem_append_right _ hx) hf1 hl) fun fs2 z L2 hL2 hf2 j2 => ?_
        exact one hL2 hf2 (j1.trans j2 fun a b => .seqN a b)
      | _ => exact one hL1 hf1 (j1.mono fun a => .seqX (by intro e; cases e) a)
    | cond x a b =>
      simp only [runStep] at hq
      cases hx : evalS fr.sl x with
      | none => rw [hx] at hq; cases hq
      | some v =>
        rw [hx] at hq
        cases v with
        | bool e =>
          simp only at hq
          refine bindP_ok hq (fun l hl => splitE_ok hf hl) fun fs1 t L1 hL1 hf1 ht => ?_
          cases t with
          | true =>
            simp only at hL1
            refine (hr _ fs1 h nx vcs L1 (show Fits P (.code f a fr) from hfit.sub fun x hx => List.mem_append_left _ hx) hf1 hL1).mono fun q hq => hq.mono fun j => .cond hx ?_
            rw [if_pos ht]; exact j
          | false =>
            simp only at hL1
            refine (hr _ fs1 h nx vcs L1 (show Fits P (.code f b fr) from hfit.sub fun x hx => List.mem_append_right _ hx) hf1 hL1).mono fun q hq => hq.mono fun j => .cond hx ?_
            rw [if_neg (by rw [ht]; simp)]; exact j
        | _ => cases hq
    | block id a =>
      simp only [runStep] at hq
      refine bindP_ok hq (fun l hl => hr _ fs h nx vcs l (show Fits P (.code f a fr) from hfit) hf hl) fun fs1 y L1 hL1 hf1 j1 => ?_
      obtain ⟨yex, yfr, yr, yh, ynx, yvcs, yft⟩ := y
      simp only at hL1
      cases hi : isExit id yex with
      | true =>
        rw [hi] at hL1
        refine one hL1 hf1 (j1.mono fun j => .blockX ?_)
        cases yex <;> simp [isExit] at hi
        subst hi
        exact j
      | false =>
        rw [hi] at hL1
        exact one hL1 hf1 (j1.mono fun j => .block (by intro e; simp only at e; subst e; simp [isExit] at hi) j)
    | loop a =>
      simp only [runStep] at hq
      cases hl : X.lp f ((keyOf a).getD 0) fr nx with
      | none =>
        rw [hl] at hq
        exact (hr _ fs h nx vcs l (show Fits P (.loop f a fr) from hfit.sub fun x hx => List.mem_cons_of_mem _ hx) hf hq).mono fun q hq => hq.mono fun j => .loop j
      | some p =>
        rw [hl] at hq
        simp only at hq
        refine bindP_ok hq (fun l hl => Prog.runF_ev _ hf hl) fun fs1 z L1 hL1 hf1 hev => ?_
        obtain ⟨⟨ex, fr', nx'⟩, zh, zv, zf⟩ := z
        simp only at hL1 hev
        obtain ⟨fn, body, h1, h2, h3⟩ := hfit
        exact one hL1 hf1 (hev.mono fun he => .extL (p := p) ⟨f, fn, body, _, h1, h2, h3 _ (List.mem_cons_self ..), hl⟩ he)
    | region id ops draw =>
      simp only [runStep] at hq
      refine bindP_ok hq (fun l hl => runOps_ok (env := env) (X := X) hcall (ops := ops) (base := nx) ops.toList 0 (fun k => by simp) hf hl) fun fs1 z L1 hL1 hf1 hops => ?_
      cases hd : (cond draw (okDrawF ops z.log) true) with
      | false => rw [hd] at hL1; cases hL1
      | true =>
        rw [hd] at hL1
        refine one hL1 hf1 (hops.mono ?_)
        rintro ⟨hlen, S, H, N, e1, e2, e3, e4, e5, e6, hall⟩
        have hsz : ops.toList.length = ops.size := Array.length_toList
        rw [hsz] at hlen e3 e4 e5 e6 hall
        simp only [Nat.zero_add] at e4 e5 e6 hall
        have hsum := logSum_eq z.log ops.size hlen.symm
        have ev := Ev.region (P := P) (env := env) (X := X.toExt P) (id := id) (ops := ops) (draw := draw) (h := cden h) (nx := nx) (L := allocsOf ops.toList nx) (D := stillResv z.h (allocsOf ops.toList nx))
          S H N (logF z.log) (logC z.log) (fun m hm => by have := mem_allocs hm; rw [hsz] at this; exact this) (fun m hm => mem_stillResv hm)
          (by rw [e2, cden_reserve]) e3 (fun i hi => hall i hi) (fun hdr => by rw [hdr] at hd; exact okDrawF_ok hd)
        rw [e1, e4, e5, e6, ← hsum.1, ← hsum.2, ← cden_cdrop] at ev
        exact ev
    | _ => simp only [runStep] at hq; cases hq
  | loop f c fr =>
    simp only [Fits] at hfit
    simp only [runStep] at hq
    refine bindP_ok hq (fun l hl => hr _ fs h nx vcs l (show Fits P (.code f c fr) from hfit) hf hl) fun fs1 y L1 hL1 hf1 j1 => ?_
    obtain ⟨yex, yfr, yr, yh, ynx, yvcs, yft⟩ := y
    simp only at hL1
    cases yex with
    | normal =>
      simp only at hL1
      refine bindP_ok hL1 (fun l hl => hr _ fs1 yh ynx yvcs l (show Fits P (.loop f c yfr) from hfit) hf1 hl) fun fs2 z L2 hL2 hf2 j2 => ?_
      exact one hL2 hf2 (j1.trans j2 fun a b => .loopN a b)
    | _ => exact one hL1 hf1 (j1.mono fun a => .loopX (by intro e; cases e) a)
  | defs ds =>
    simp only [runStep] at hq
    cases ds with
    | nil => simp only at hq; exact one hq hf (.id .defN)
    | cons d ds =>
      obtain ⟨g, args⟩ := d
      simp only at hq
      refine bindP_ok hq (fun l hl => hr (.fn true g args) fs h nx vcs l trivial hf hl) fun fs1 y L1 hL1 hf1 j1 => ?_
      refine bindP_ok hL1 (fun l hl => hr (.defs ds) fs1 y.h y.nx y.vcs l trivial hf1 hl) fun fs2 z L2 hL2 hf2 j2 => ?_
      exact one hL2 hf2 (j1.trans j2 fun a b => .defC a b)
  | fn dfr f args =>
    simp only [runStep] at hq
    cases hx : (cond dfr none (X.fn f args nx)) with
    | some p =>
      rw [hx] at hq
      simp only at hq
      cases dfr with
      | true => cases hx
      | false =>
        refine bindP_ok hq (fun l hl => Prog.runF_ev _ hf hl) fun fs1 z L1 hL1 hf1 hev => ?_
        obtain ⟨⟨r, nx'⟩, zh, zv, zf⟩ := z
        simp only at hL1 hev
        exact one hL1 hf1 (hev.mono fun he => .ext (p := p) hx he)
    | none =>
      rw [hx] at hq
      simp only at hq
      cases hfn : P.funcs[f]? with
      | none => rw [hfn] at hq; cases hq
      | some fn =>
        rw [hfn] at hq
        simp only at hq
        cases hb : fn.body with
        | none => rw [hb] at hq; cases hq
        | some c =>
          rw [hb] at hq
          simp only at hq
          cases hle : Nat.ble args.length fn.ntmps with
          | false => rw [hle] at hq; cases hq
          | true =>
            rw [hle] at hq
            simp only [cond_true] at hq
            refine bindP_ok hq (fun l hl => hr _ fs h nx vcs l (show Fits P (.code f c _) from ⟨fn, c, hfn, hb, fun x hx => hx⟩) hf hl) fun fs1 y L1 hL1 hf1 j1 => ?_
            cases hlv : (leaves y.ex && cond dfr (y.fr.df.isEmpty) true) with
            | false => rw [hlv] at hL1; cases hL1
            | true =>
              rw [hlv] at hL1
              simp only [cond_true] at hL1
              rw [Bool.and_eq_true] at hlv
              refine bindP_ok hL1 (fun l hl => hr (.defs y.fr.df) fs1 y.h y.nx y.vcs l trivial hf1 hl) fun fs2 z L2 hL2 hf2 j2 => ?_
              refine bindP_ok hL2 (fun l hl => Prog.runF_ev _ hf2 hl) fun fs3 x L3 hL3 hf3 j3 => ?_
              cases hw : x.ft.wr.isEmpty with
              | false => rw [hw] at hL3; cases hL3
              | true =>
                rw [hw] at hL3
                simp only [cond_true] at hL3
                refine one hL3 hf3 ((j1.trans j2 And.intro).trans j3 ?_)
                rintro ⟨a, b⟩ c3
                have hwr : x.ft.wr = [] := by simpa using hw
                have hsame : cden x.h = cden z.h := by
                  funext n
                  have := (prog_loc c3).1 n (by rw [hwr]; simp)
                  exact this
                rw [hsame] at c3
                have ev := Ev.fn (X := X.toExt P) (dfr := dfr) (D := []) (F := ((y.ft.add z.ft).add x.ft).tidy) hfn hb (Nat.le_of_ble_eq_true hle) a (leaves_ok hlv.1)
                  (fun hd => by rw [hd] at hlv; simpa using hlv.2) b c3 hwr (fun m hm => by cases hm) (Foot.tidy_like _)
                have hd0 : dropL (cden z.h) [] = cden z.h := by funext n; simp [dropL]
                rw [hd0] at ev
                exact ev

theorem run_ok : ∀ k, RecOk P env X (run P n X k)
  | 0 => fun cmd fs h nx vcs l _ _ hq => by cases hq
  | k + 1 => runStep_ok (run_ok k)

end
end Go.Sx
