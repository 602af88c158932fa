/-
  SX, PART 28: a computed loop as a contract: into it and out of it.
-/
import Derived.Test.YtgopjdknmjjheaaSxLoopF
namespace Go.Sx
open Go.RowKit
set_option linter.unusedVariables false
set_option linter.unusedSimpArgs false

section
variable {vB : Nat} {env e : Env} {w0 : Anchor} {ρ ρE : PMap} {fr : Fr} {h : Heap} {nx nx' : Nat} {a a' : Act} {w w' : World} {μ : Nat → Nat → Prop}

theorem sat_in_full (hs : Sat env w0 ρ fr h nx a w) (hA : AbsAll env w0 ρ h w μ) {S : List Nat} {H : Head} {N : Nat} {js : List Nat} {l : List (Nat × Nat)} (hov : entOv env e (sig l nx) fr.sl H.ov) (hhp : entHpF env e (sig l nx) h S H.h)
    (hobj : H.h.all (fun x => headObj x.2) = true) (hinj : allDiff (l.map (·.2)) = true) (hlt : ∀ x ∈ l, x.1 < H.m) (hdf : fr.df = []) (hN : fr.sl.length = N)
    (hv : ∀ j, j < N → e.val (vB + j) 0 = (a.tmps.toList[j]?).getD undef) :
    Sat e (anchorBut w (ownedBy ρ h μ S)) (fun n => ρ (sig l nx n)) ⟨mkSl (fullH vB N js H).ov (fun j => (a.tmps.toList[j]?).getD undef) 0 N, []⟩ (cden H.h) H.m a w := by
  have hs1 := sat_in hs hA hov hhp hobj hinj hlt hdf hN
  have hal : a.tmps.toList.length = N := by rw [hs.sl.length, hN]
  exact ⟨hs1.hs, rels_full hs1.sl (fun j hj => by rw [List.getElem?_eq_getElem (by omega)]; rfl) hv (fun _ _ => rfl), hs1.df, hs1.nx⟩

theorem ovGet_tops_none : ∀ {js : List Nat} {j : Nat}, j ∉ js → ovGet (topsL js) j = none
  | [], _, _ => rfl
  | i :: r, j, h => by
    simp only [List.mem_cons, not_or] at h
    simp only [topsL, List.map_cons, ovGet]
    have : Nat.beq i j = false := by rw [Bool.eq_false_iff]; intro he; exact h.1 (Nat.eq_of_beq_eq_true he).symm
    rw [this]
    exact ovGet_tops_none (js := r) h.2

theorem sat_out_full (hs : Sat env w0 ρ fr h nx a w) (hA : AbsAll env w0 ρ h w μ) {S news : List Nat} {Hx : Head} {N : Nat} {js : List Nat} (hE : Sat e (anchorBut w (ownedBy ρ h μ S)) ρE ⟨mkSl (fullH vB N js Hx).ov (fun _ => .nilIface) 0 N, []⟩ (cden Hx.h) Hx.m a' w')
    {tl : List (Nat × Nat)} {upds : List (Nat × SObj)} {outs : List (Nat × SV)}
    (hkeys : ∀ n, n ∈ upds.map (·.1) ↔ n ∈ S ∨ n ∈ news) (hnew : ∀ n ∈ news, nx ≤ n ∧ n < nx') (hnx : nx ≤ nx')
    (hobj : ∀ n o, (n, o) ∈ upds → o = .gone ∨ (o.owner = true ∧ ∃ oE, cget Hx.h (sig tl Hx.m n) = some oE ∧ oE.owner = true ∧ SObj.ent e env (sig tl Hx.m) oE o))
    (hrefs : ∀ n k st refs, (n, .abs k st refs) ∈ upds → ∀ m ∈ refs, m ∈ tl.map (·.1)) (hab : e.ab = env.ab)
    (hinj : allDiff (tl.map (·.2)) = true) (htl : ∀ x ∈ tl, x.1 ∈ news ∨ ρ x.1 = ρE x.2)
    (hout : entOv e env (sig tl Hx.m) (mkSl (fullH vB N js Hx).ov (fun _ => .nilIface) 0 N) outs) (hdf : fr.df = []) (hN : fr.sl.length = N)
    (hv : ∀ j, j < N → e.val (vB + j) 0 = (a.tmps.toList[j]?).getD undef) (hjo : ∀ j, j < N → ovGet outs j = none → ovGet Hx.ov j = none) :
    ρ.le (backMap ρ ρE (sig tl Hx.m) news) ∧ Sat env w0 (backMap ρ ρE (sig tl Hx.m) news) ⟨setL outs (tops js fr.sl), []⟩ (hputs upds h) nx' a' w' := by
  have hal : a.tmps.toList.length = N := by rw [hs.sl.length, hN]
  refine sat_out hs hA hE hkeys hnew hnx hobj hrefs hab hinj htl hout hdf rfl (by rw [mkSl_length, hN]) (fun j hj hjj hno => ?_)
  rw [hN] at hj
  have h2 := hjo j hj hno
  obtain ⟨v, hv', hr⟩ := sl_of_mk hE.sl hj
  have hx : ovGet (fullH vB N js Hx).ov j = some (.val (vB + j) (.il 0)) := by
    obtain ⟨x, hx⟩ := ovGet_full (vB := vB) (js := js) (ov := Hx.ov) hj
    have hx2 := hx
    unfold fullOv at hx2
    rw [ovGet_append, h2] at hx2
    simp only at hx2
    rw [ovGet_append, ovGet_tops_none hjj] at hx2
    simp only at hx2
    rw [ovGet_stays hx2] at hx
    exact hx
  rw [hx] at hr
  have : v = e.val (vB + j) 0 := hr
  rw [hv', this, hv j hj, List.getElem?_eq_getElem (by omega)]
  rfl
end

def placed : SObj → Bool
  | .cells .. => true
  | .row .. => true
  | .inp .. => true
  | .map .. => true
  | .abs .. => true
  | .chan .. => true
  | _ => false
theorem placed_some {env : Env} {w0 : Anchor} {ρ : PMap} {n : Nat} {o : SObj} {w : World} (h : o.Rel env w0 ρ n w) (hp : placed o = true) : ∃ p, ρ n = some p := by
  cases o with
  | inp sz len cols => obtain ⟨p, h1, _⟩ := h; exact ⟨p, h1⟩
  | resv => cases hp
  | gone => cases hp
  | _ => obtain ⟨p, _, h1, _⟩ := h.place rfl; exact ⟨p, h1⟩

/-! ### renamed -/
def SObj.ren (τ : Nat → Nat) (pr : Nat → E) : SObj → SObj
  | .cells T cs => .cells T (SV.rens τ pr cs)
  | .row T sz len cols tail => .row T sz (len.prime pr) cols (tail.map (SV.rens τ pr))
  | .map m ix kk sz known => .map m (ix.prime pr) kk (sz.prime pr) (knownRen τ pr known)
  | .abs k st refs => .abs k (st.prime pr) (refs.map τ)
  | .chan c => .chan (c.prime pr)
  | o => o

def vcsP : List Ob → Prog Unit
  | [] => .ret ()
  | o :: r => do vcO o; vcsP r
theorem run_vcsP {env : Env} : ∀ {l : List Ob} {h h' : Heap} {u : Unit}, (vcsP l).Run env h u h' ↔ AllT env l ∧ h = h'
  | [], h, h', u => by simp only [vcsP, run_ret]; exact ⟨fun e => ⟨fun x hx => (by cases hx), e.2⟩, fun e => ⟨trivial, e.2⟩⟩
  | o :: r, h, h', u => by
    simp only [vcsP, run_bind, run_vcO, run_vcsP]
    constructor
    · rintro ⟨_, _, ⟨h1, rfl⟩, h2, rfl⟩
      exact ⟨fun x hx => by rcases List.mem_cons.1 hx with rfl | hx; exact h1; exact h2 x hx, rfl⟩
    · rintro ⟨h1, rfl⟩
      exact ⟨(), _, ⟨h1 o (List.mem_cons_self ..), rfl⟩, fun x hx => h1 x (List.mem_cons_of_mem _ hx), rfl⟩

theorem run_get {α : Type} {env : Env} {n : Nat} {k : SObj → Prog α} {h h' : Heap} {b : α} : (Prog.get n k).Run env h b h' ↔ ∃ o, hget h n = some o ∧ (k o).Run env h b h' := Iff.rfl
theorem passP_heap {env : Env} : ∀ {hp : CHeap} {l r : List (Nat × Nat)} {h h' : Heap}, (passP hp l).Run env h r h' → h = h'
  | [], l, r, h, h', he => by simp only [passP, run_ret] at he; exact he.2
  | (m, o) :: hp, l, r, h, h', he => by
    unfold passP at he
    split at he
    · exact passP_heap he
    · obtain ⟨x, _, h2⟩ := run_get.1 he; exact passP_heap h2
theorem autoP_heap {env : Env} {sl : List SV} {H : Head} {r : List (Nat × Nat)} {h h' : Heap} (he : (autoP sl H).Run env h r h') : h = h' := by
  simp only [autoP, run_bind] at he
  obtain ⟨_, _, h1, _, _, h2, h3⟩ := he
  rw [passP_heap h1, passP_heap h2, passP_heap h3]

def entHpP (okv : Nat → Bool) (σ : Nat → Nat) : CHeap → Prog Unit
  | [] => .ret ()
  | (m, o') :: r => do
    let o ← getN (σ m)
    must (placed o) "entry: an object that has no place"
    let es ← ofOpt (objC E.v okv σ o o') "entry: an object"
    vcsP es
    entHpP okv σ r
theorem entHpP_ok {env e : Env} {okv : Nat → Bool} (hn : Nexts env e E.v okv) {σ : Nat → Nat} {S : List Nat} : ∀ {hp : CHeap} {h h' : Heap} {u : Unit}, (entHpP okv σ hp).Run env h u h' → (∀ x ∈ hp, x.2.owner = true → σ x.1 ∈ S) →
    h = h' ∧ entHpF env e σ h S hp ∧ ∀ x ∈ hp, ∃ o, hget h (σ x.1) = some o ∧ placed o = true
  | [], h, h', u, he, _ => by simp only [entHpP, run_ret] at he; exact ⟨he.2, trivial, fun x hx => by cases hx⟩
  | (m, o') :: r, h, h', u, he, hS => by
    simp only [entHpP, run_bind, run_getN, run_must, run_ofOpt, run_vcsP] at he
    obtain ⟨o, _, ⟨ho, rfl⟩, _, _, ⟨hpl, rfl⟩, es, _, ⟨hes, rfl⟩, _, _, ⟨ht, rfl⟩, he⟩ := he
    obtain ⟨rfl, h2, h3⟩ := entHpP_ok hn he (fun x hx => hS x (List.mem_cons_of_mem _ hx))
    refine ⟨rfl, ⟨?_, h2⟩, fun x hx => ?_⟩
    · rw [ho]; exact ⟨objC_ok hn hes ht, fun ho' => hS _ (List.mem_cons_self ..) ho'⟩
    · rcases List.mem_cons.1 hx with rfl | hx
      · exact ⟨o, ho, hpl⟩
      · exact h3 x hx

def decP : List (E × Nat) → Prog Nat
  | [] => .fail "no exit"
  | (c, ν) :: r => do
    let b ← decE c
    match b with
    | true => return ν
    | false => decP r
def rfree (pr : Nat → E) : List (E × Nat) → Bool
  | [] => true
  | (c, _) :: r => (c.prime pr).same c && rfree pr r
theorem decP_ok {env e : Env} {pr : Nat → E} {okv : Nat → Bool} (hn : Nexts e env pr okv) : ∀ {l : List (E × Nat)} {ν m : Nat} {h h' : Heap} {xs : List Ob}, rfree pr l = true → (decP l).Run env h ν h' → LoopY.exitObl l m = some xs → AllT e xs → h = h' ∧ ν = m
  | [], _, _, _, _, _, _, he, _, _ => he.elim
  | (c, ν0) :: r, ν, m, h, h', xs, hf, he, hx, ht => by
    simp only [rfree, Bool.and_eq_true] at hf
    simp only [decP, run_bind, run_decE] at he
    obtain ⟨b, _, ⟨hb, rfl⟩, he⟩ := he
    have hcc : (c.den e).B = (c.den env).B := by
      have h1 := E.prime_den hn c
      rw [E.same_eq hf.1] at h1
      rw [h1]
    unfold LoopY.exitObl at hx
    cases hm : Nat.beq ν0 m with
    | true =>
      rw [hm] at hx
      simp only [cond_true, Option.some.injEq] at hx
      obtain rfl := Nat.eq_of_beq_eq_true hm
      cases b with
      | true => simp only [run_pure] at he; exact ⟨he.2, he.1.symm⟩
      | false =>
        exfalso
        have : (c.den e).B = true := by
          cases hs : c.same (.bl true) with
          | true => rw [E.same_eq hs]; rfl
          | false =>
            rw [hs] at hx; subst hx
            exact ht _ (List.mem_singleton.2 rfl)
        rw [hcc, hb] at this; cases this
    | false =>
      rw [hm] at hx
      simp only [cond_false, Option.map_eq_some_iff] at hx
      obtain ⟨ys, hy, rfl⟩ := hx
      have hc : ((notE c).den e).B = true := ht _ (List.mem_cons_self ..)
      rw [B_notE, hcc, hb] at hc
      cases b with
      | true => cases hc
      | false => exact decP_ok hn hf.2 he hy fun x hx => ht x (List.mem_cons_of_mem _ hx)

/-- What hangs on the round's variable not at all. -/
def stable (pr : Nat → E) : List Ob → Bool
  | [] => true
  | .e x :: r => (x.prime pr).same x && stable pr r
  | _ :: _ => false
theorem stable_ok {env e : Env} {pr : Nat → E} {okv : Nat → Bool} (hn : Nexts e env pr okv) : ∀ {l : List Ob}, stable pr l = true → AllT env l → AllT e l
  | [], _, _ => fun x hx => by cases hx
  | .e x :: r, hs, ht => by
    simp only [stable, Bool.and_eq_true] at hs
    intro y hy
    rcases List.mem_cons.1 hy with rfl | hy
    · show (x.den e).B = true
      have h1 := E.prime_den hn x
      rw [E.same_eq hs.1] at h1
      rw [h1]
      exact ht _ (List.mem_cons_self ..)
    · exact stable_ok hn hs.2 (fun z hz => ht z (List.mem_cons_of_mem _ hz)) y hy
  | .mp .. :: r, hs, _ => by cases hs

theorem hold_append_iff {env : Env} {a b : Facts} : Facts.Hold env (a ++ b) ↔ Facts.Hold env a ∧ Facts.Hold env b :=
  ⟨fun h => ⟨fun e t hm => h e t (List.mem_append_left _ hm), fun e t hm => h e t (List.mem_append_right _ hm)⟩, fun h => hold_append h.1 h.2⟩
namespace LoopY
theorem hold_entry (D : LoopY) {e : Env} (h0 : e.v D.r = .i 0) (u : Nat → Value) {fs : Facts} (h : fs.Hold e) : fs.Hold (D.env e u 0) := fun x b hm => by
  have h1 := E.prime_den (D.nextE h0 u) x
  have h2 := E.prime_den (show Nexts e e E.v (fun _ => true) from ⟨fun _ => rfl, rfl, fun _ _ _ => rfl, rfl, rfl⟩) x
  rw [← h1, h2]
  exact h x b hm
def ren1 (D : LoopY) (l : List (Nat × Nat)) (nx k : Nat) : Nat := cond (inL k D.fixed) (sig l nx k) (nx + k)
def isNew (D : LoopY) (x : Nat × SObj) : Bool := x.2.owner && !(inL x.1 D.fixed)
def backO (D : LoopY) (l : List (Nat × Nat)) (nx : Nat) (n : Nat) : CHeap → SObj
  | [] => .gone
  | (k, o) :: r => cond (inL k D.fixed && o.owner && Nat.beq (sig l nx k) n) (o.ren (D.ren1 l nx) D.prX) (D.backO l nx n r)
def updC (D : LoopY) (tl : List (Nat × Nat)) (Hx : Head) : List (Nat × SObj) → Option (List Ob)
  | [] => some []
  | (n, o) :: r =>
    match o with
    | .gone => D.updC tl Hx r
    | o =>
      cond o.owner
        (match cget Hx.h (sig tl Hx.m n) with
        | some oE => cond oE.owner (obl2 (objC D.prX D.okv (sig tl Hx.m) oE o) (D.updC tl Hx r)) none
        | none => none) none
def refsOk (tl : List (Nat × Nat)) : List (Nat × SObj) → Bool
  | [] => true
  | (_, .abs _ _ refs) :: r => refs.all (fun m => inL m (tl.map (·.1))) && refsOk tl r
  | _ :: r => refsOk tl r
def newsL (D : LoopY) (Hx : Head) (nx : Nat) : List Nat := (Hx.h.filter D.isNew).map fun x => nx + x.1
def tlL (D : LoopY) (l : List (Nat × Nat)) (nx : Nat) (Hx : Head) : List (Nat × Nat) := Hx.h.map fun x => (D.ren1 l nx x.1, x.1)
def updsL (D : LoopY) (l : List (Nat × Nat)) (nx : Nat) (S : List Nat) (Hx : Head) : List (Nat × SObj) :=
  S.map (fun n => (n, D.backO l nx n Hx.h)) ++ (Hx.h.filter D.isNew).map fun x => (nx + x.1, x.2.ren (D.ren1 l nx) D.prX)
def outsL (D : LoopY) (l : List (Nat × Nat)) (nx : Nat) (Hx : Head) : List (Nat × SV) := Hx.ov.map fun x => (x.1, x.2.ren (D.ren1 l nx) D.prX)
def outOk (D : LoopY) (l : List (Nat × Nat)) (nx : Nat) (S : List Nat) (Hx : Head) : Bool :=
  Hx.h.all (fun x => headObj x.2) && allDiff ((D.tlL l nx Hx).map (·.2)) && Hx.h.all (fun x => Nat.blt x.1 Hx.m && (inL x.1 D.fixed || x.2.owner)) && refsOk (D.tlL l nx Hx) (D.updsL l nx S Hx)
def outP (D : LoopY) (fr : Fr) (l : List (Nat × Nat)) (nx : Nat) (S : List Nat) (ν : Nat) : Prog (SExit × Fr × Nat) := do
  must (D.outOk l nx S (D.hx ν)) "exit: names"
  let es1 ← ofOpt (entOvC D.prX D.okv (sig (D.tlL l nx (D.hx ν)) (D.hx ν).m) (mkSl (D.full (D.hx ν)).ov (fun _ => .nilIface) 0 D.N) (D.outsL l nx (D.hx ν))) "exit: slots"
  let es2 ← ofOpt (D.updC (D.tlL l nx (D.hx ν)) (D.hx ν) (D.updsL l nx S (D.hx ν))) "exit: objects"
  must (stable D.prX (es1 ++ es2)) "exit: the round's variable"
  vcsP (es1 ++ es2)
  putsP (D.updsL l nx S (D.hx ν))
  return (D.exN ν, ⟨setL (D.outsL l nx (D.hx ν)) (tops D.js fr.sl), []⟩, nx + (D.hx ν).m)
def lpP (D : LoopY) (fr : Fr) (nx : Nat) : Option (Prog (SExit × Fr × Nat)) :=
  cond (fr.df.isEmpty && Nat.beq fr.sl.length D.N && Nat.ble D.N 1000 && rfree D.prX D.exits)
    (cond (D.app fr.sl) (some (do
      let μ ← D.mode fr.sl
      must (D.ok0 μ) "entry: mode"
      let l ← autoP fr.sl (D.hd μ)
      must (allDiff (l.map (·.2)) && l.all (fun x => Nat.blt x.1 (D.hd μ).m) && D.fixed.all (fun k => inL k ((D.hd μ).h.map (·.1))) && (D.hd μ).h.all (fun x => headObj x.2)) "entry: names"
      let es ← ofOpt (entOvC E.v D.okv (sig l nx) fr.sl (D.hd μ).ov) "entry: slots"
      vcsP (LoopY.factsO (D.ent μ ++ D.mf μ))
      vcsP es
      entHpP D.okv (sig l nx) (D.hd μ).h
      let ν ← decP D.exits
      D.outP fr l nx (((D.hd μ).h.filter fun x => x.2.owner).map fun x => sig l nx x.1) ν)) none) none
end LoopY

/-- What is asked of a loop's contract. -/
def LpOk (P : Program) (env : Env) (f : FuncId) (key : Nat) (pp : Fr → Nat → Option (Prog (SExit × Fr × Nat))) : Prop :=
  ∀ (w0 : Anchor) fr nx p h ex fr' h' nx', pp fr nx = some p → p.Run env h (ex, fr', nx') h' → nx ≤ nx' ∧ ∀ ρ (a : Act) w (Q : Exit → Act → World → Prop), Sat env w0 ρ fr h nx a w →
    (∀ ρ' (a' : Act) w', ρ.le ρ' → Sat env w0 ρ' fr' h' nx' a' w' → Q ex.den a' w') → (Code.loop (theLoop P f key)).wp P Q a w
def FnOk (P : Program) (env : Env) (f : FuncId) (pp : List SV → Nat → Option (Prog (SV × Nat))) : Prop :=
  ∀ (w0 : Anchor) args nx p h r h' nx', pp args nx = some p → p.Run env h (r, nx') h' → nx ≤ nx' ∧ ∀ ρ w vs, HSat env w0 ρ h w → (∀ n p, ρ n = some p → n < nx) → SV.Rels env ρ args vs →
    Calls P f vs.toArray w fun e w' => ∃ ρ' v, e = .returned v ∧ ρ.le ρ' ∧ HSat env w0 ρ' h' w' ∧ (∀ n p, ρ' n = some p → n < nx') ∧ r.Rel env ρ' v

/-- Contracts by lists. -/
structure Ctr where
  fns : List (FuncId × (List SV → Nat → Option (Prog (SV × Nat))))
  lps : List (FuncId × Nat × (Fr → Nat → Option (Prog (SExit × Fr × Nat))))
def fnAt : List (FuncId × (List SV → Nat → Option (Prog (SV × Nat)))) → FuncId → List SV → Nat → Option (Prog (SV × Nat))
  | [], _, _, _ => none
  | (g, p) :: r, f, args, nx => cond (Nat.beq g f) (p args nx) (fnAt r f args nx)
def lpAt : List (FuncId × Nat × (Fr → Nat → Option (Prog (SExit × Fr × Nat)))) → FuncId → Nat → Fr → Nat → Option (Prog (SExit × Fr × Nat))
  | [], _, _, _, _ => none
  | (g, k, p) :: r, f, key, fr, nx => cond (Nat.beq g f && Nat.beq k key) (p fr nx) (lpAt r f key fr nx)
def Ctr.x (c : Ctr) : XCtr := ⟨fnAt c.fns, lpAt c.lps⟩
theorem fnAt_mem : ∀ {l : List (FuncId × (List SV → Nat → Option (Prog (SV × Nat))))} {f : FuncId} {args : List SV} {nx : Nat} {q : Prog (SV × Nat)}, fnAt l f args nx = some q → ∃ x ∈ l, x.1 = f ∧ x.2 args nx = some q
  | [], _, _, _, _, h => by cases h
  | (g, p) :: r, f, args, nx, q, h => by
    unfold fnAt at h
    cases hb : Nat.beq g f with
    | true => rw [hb] at h; exact ⟨(g, p), List.mem_cons_self .., Nat.eq_of_beq_eq_true hb, h⟩
    | false => rw [hb] at h; obtain ⟨x, h1, h2⟩ := fnAt_mem h; exact ⟨x, List.mem_cons_of_mem _ h1, h2⟩
theorem lpAt_mem : ∀ {l : List (FuncId × Nat × (Fr → Nat → Option (Prog (SExit × Fr × Nat))))} {f : FuncId} {key : Nat} {fr : Fr} {nx : Nat} {q : Prog (SExit × Fr × Nat)}, lpAt l f key fr nx = some q → ∃ x ∈ l, x.1 = f ∧ x.2.1 = key ∧ x.2.2 fr nx = some q
  | [], _, _, _, _, _, h => by cases h
  | (g, k, p) :: r, f, key, fr, nx, q, h => by
    unfold lpAt at h
    cases hb : (Nat.beq g f && Nat.beq k key) with
    | true =>
      rw [hb] at h
      rw [Bool.and_eq_true] at hb
      exact ⟨(g, k, p), List.mem_cons_self .., Nat.eq_of_beq_eq_true hb.1, Nat.eq_of_beq_eq_true hb.2, h⟩
    | false => rw [hb] at h; obtain ⟨x, h1, h2⟩ := lpAt_mem h; exact ⟨x, List.mem_cons_of_mem _ h1, h2⟩
theorem Ctr.ok {P : Program} {env : Env} {c : Ctr} (hap : c.lps.all (fun x => loopsApart P x.1) = true) (hf : ∀ x ∈ c.fns, FnOk P env x.1 x.2) (hl : ∀ x ∈ c.lps, LpOk P env x.1 x.2.1 x.2.2) (w0 : Anchor) : ExtOk P env w0 (c.x.toExt P) := by
  refine ⟨fun f args nx p h r h' nx' hx hr => ?_, fun code fr nx p h ex fr' h' nx' hx hr => ?_⟩
  · obtain ⟨x, hm, rfl, hp⟩ := fnAt_mem hx
    exact hf x hm w0 args nx p h r h' nx' hp hr
  · obtain ⟨f, fn, body, k, h1, h2, h3, h4⟩ := hx
    obtain ⟨x, hm, rfl, rfl, hp⟩ := lpAt_mem h4
    rw [theLoop_eq (List.all_eq_true.1 hap x hm) h1 h2 h3]
    exact hl x hm w0 fr nx p h ex fr' h' nx' hp hr

namespace LoopY
theorem updC_ok {D : LoopY} {env e : Env} (hn : Nexts e env D.prX D.okv) {tl : List (Nat × Nat)} {Hx : Head} : ∀ {us : List (Nat × SObj)} {es : List Ob}, D.updC tl Hx us = some es → AllT e es →
    ∀ n o, (n, o) ∈ us → o = .gone ∨ (o.owner = true ∧ ∃ oE, cget Hx.h (sig tl Hx.m n) = some oE ∧ oE.owner = true ∧ SObj.ent e env (sig tl Hx.m) oE o)
  | [], es, _, _, n, o, h => by cases h
  | (n0, o0) :: r, es, hc, ht, n, o, hm => by
    unfold updC at hc
    split at hc
    · rcases List.mem_cons.1 hm with e1 | hm
      · injection e1 with e1 e2; exact .inl e2
      · exact updC_ok hn hc ht n o hm
    · cases ho : o0.owner with
      | false => rw [ho] at hc; cases hc
      | true =>
        rw [ho] at hc
        simp only [cond_true] at hc
        split at hc
        · rename_i oE hg
          cases hoE : oE.owner with
          | false => rw [hoE] at hc; cases hc
          | true =>
            rw [hoE] at hc
            simp only [cond_true] at hc
            obtain ⟨l1, l2, h1, h2, rfl⟩ := obl2_some hc
            obtain ⟨t1, t2⟩ := allT_append.1 ht
            rcases List.mem_cons.1 hm with e1 | hm
            · injection e1 with e1 e2; subst e1; subst e2
              refine .inr ⟨ho, oE, hg, hoE, ?_⟩
              have := objC_ok hn h1 t1
              unfold entO at this
              split at this
              · cases ho
              · exact this.2
            · exact updC_ok hn h2 t2 n o hm
        · cases hc
theorem refsOk_ok {tl : List (Nat × Nat)} : ∀ {us : List (Nat × SObj)}, refsOk tl us = true → ∀ n k st refs, (n, .abs k st refs) ∈ us → ∀ m ∈ refs, m ∈ tl.map (·.1)
  | [], _, _, _, _, _, h, _, _ => by cases h
  | (n0, o0) :: r, hc, n, k, st, refs, hm, m, hmr => by
    rcases List.mem_cons.1 hm with e | hm
    · injection e with e1 e2
      subst e2
      simp only [refsOk, Bool.and_eq_true] at hc
      exact inL_iff.1 (List.all_eq_true.1 hc.1 m hmr)
    · refine refsOk_ok (us := r) ?_ n k st refs hm m hmr
      unfold refsOk at hc
      split at hc
      · rename_i heq; cases heq
      · rename_i heq; injection heq with _ h2; subst h2; rw [Bool.and_eq_true] at hc; exact hc.2
      · rename_i heq; injection heq with _ h2; subst h2; exact hc
theorem ovGet_map {g : SV → SV} : ∀ {l : List (Nat × SV)} {j : Nat}, ovGet (l.map fun x => (x.1, g x.2)) j = none → ovGet l j = none
  | [], _, _ => rfl
  | (i, x) :: r, j, h => by
    simp only [List.map_cons, ovGet] at h ⊢
    cases hb : Nat.beq i j with
    | true => rw [hb] at h; cases h
    | false => rw [hb] at h; exact ovGet_map h

theorem keys1 {g : Nat → SObj} : ∀ {S : List Nat}, (S.map fun n => (n, g n)).map (·.1) = S
  | [] => rfl
  | a :: S => by simp only [List.map_cons, keys1]
theorem keys2 {nx : Nat} {g : Nat × SObj → SObj} : ∀ {l : CHeap}, (l.map fun x => (nx + x.1, g x)).map (·.1) = l.map fun x => nx + x.1
  | [] => rfl
  | a :: S => by simp only [List.map_cons, keys2]

/-- What is to be known of a loop's rounds. -/
structure Rounds (P : Program) (D : LoopY) (env : Env) (μ0 : Nat) where
  n : Nat
  mode : (Nat → Value) → Nat → Nat → Prop
  L : Nat → List (Facts × List Ob)
  hX : ∀ i u A, i ≤ n → ExtOk P (D.env env u i) A (D.X.toExt P)
  hob : ∀ u i μ, mode u i μ → D.obl P μ = some (L μ)
  hall : ∀ i μ u, mode u i μ → i ≤ n → ∀ x ∈ L μ, x.1.Hold (D.env env u i) → AllT (D.env env u i) x.2
  hfs : ∀ i μ u, mode u i μ → i ≤ n → (D.hd μ).fs.Hold (D.env env u i)
  hlt : ∀ i u, i ≤ n → (D.lt.den (D.env env u i)).B = true → i < n
  hturn : ∀ u i μ μ', mode u i μ → D.tgt μ' = true → (D.mf μ').Hold (D.env env u (i + 1)) → mode u (i + 1) μ'
  hm0 : ∀ u, (D.mf μ0).Hold (D.env env u 0) → mode u 0 μ0

/-- The contract of a loop whose rounds were computed. -/
theorem lp_ok {P : Program} (hP : Plain P) (hM : P.follows .mixedOrders = true) {D : LoopY} (hbody : ((P.funcs[D.f]?).bind (·.body)).isSome = true) {env : Env} (h0 : env.v D.r = .i 0) (hR : ∀ μ0, D.ok0 μ0 = true → (D.ent μ0).Hold env → Nonempty (Rounds P D env μ0)) (hxobj : ∀ ν, ((D.hx ν).h.all fun x => headObj x.2) = true) : LpOk P env D.f D.key D.lpP := by
  intro w0 fr nx p h ex fr' h' nx' hp hr
  unfold lpP at hp
  cases hc : (fr.df.isEmpty && Nat.beq fr.sl.length D.N && Nat.ble D.N 1000 && rfree D.prX D.exits) with
  | false => rw [hc] at hp; cases hp
  | true =>
    rw [hc] at hp
    simp only [Bool.and_eq_true, Nat.beq_eq, List.isEmpty_iff] at hc
    obtain ⟨⟨⟨hdf, hN⟩, hN1⟩, hrf⟩ := hc
    have hN1 := Nat.le_of_ble_eq_true hN1
    cases happ : D.app fr.sl with
    | false => rw [happ] at hp; cases hp
    | true =>
      rw [happ] at hp
      simp only [cond_true, Option.some.injEq] at hp
      subst hp
      simp only [run_bind, run_must, run_ofOpt, run_vcsP] at hr
      obtain ⟨μ0, _, hmd, _, _, ⟨hok0, rfl⟩, l, _, ha, _, _, ⟨hchk, rfl⟩, es, _, ⟨hes, rfl⟩, _, _, ⟨htf, rfl⟩, _, _, ⟨htes, rfl⟩, _, hx, hE, ν, hy, hdec, hout⟩ := hr
      obtain rfl := D.modeP _ hmd
      have htf := hold_append_iff.1 (factsO_ok htf)
      obtain ⟨n, mode, L, hX, hob, hall, hfs, hlt, hturn, hm0⟩ := hR μ0 hok0 htf.1
      obtain rfl := autoP_heap ha
      simp only [Bool.and_eq_true] at hchk
      obtain ⟨⟨⟨hinj, hltl⟩, hfix⟩, hobj⟩ := hchk
      obtain ⟨rfl, _⟩ : h = hx ∧ True := ⟨(entHpP_ok (S := ((D.hd μ0).h.map fun x => sig l nx x.1)) (D.nextE h0 fun _ => .nilIface) hE fun x hx _ => List.mem_map.2 ⟨x, hx, rfl⟩).1, trivial⟩
      have hh : h = hy := by
        have : ∀ {l : List (E × Nat)} {ν : Nat} {h h' : Heap}, (decP l).Run env h ν h' → h = h' := by
          intro l
          induction l with
          | nil => intro ν h h' he; exact he.elim
          | cons x r ih =>
            intro ν h h' he
            obtain ⟨c, m⟩ := x
            simp only [decP, run_bind, run_decE] at he
            obtain ⟨b, _, ⟨_, rfl⟩, he⟩ := he
            cases b with
            | true => simp only [run_pure] at he; exact he.2
            | false => exact ih he
        exact this hdec
      subst hh
      simp only [outP, run_bind, run_must, run_ofOpt, run_vcsP, run_puts, run_pure] at hout
      obtain ⟨_, _, ⟨hok, rfl⟩, es1, _, ⟨he1, rfl⟩, es2, _, ⟨he2, rfl⟩, _, _, ⟨hst, rfl⟩, _, _, ⟨hto, rfl⟩, _, _, rfl, e1, rfl⟩ := hout
      injection e1 with e1 e2
      injection e2 with e2 e3
      subst e1; subst e2; subst e3
      refine ⟨Nat.le_add_right .., fun ρ a w Q hs hQ => ?_⟩
      obtain ⟨μA, hA⟩ := hs.hs.abs
      have hal : a.tmps.toList.length = D.N := by rw [hs.sl.length, hN]
      let u : Nat → Value := fun j => (a.tmps.toList[j]?).getD undef
      have hvu : ∀ i j, j < D.N → (D.env env u i).val (D.base + j) 0 = (a.tmps.toList[j]?).getD undef := by
        intro i j hj
        show (if D.base ≤ D.base + j ∧ D.base + j < D.base + 1000 then u (D.base + j - D.base) else env.val _ _) = _
        rw [if_pos ⟨by omega, by omega⟩, Nat.add_sub_cancel_left]
      have hnE := D.nextE h0 u
      obtain ⟨_, hhp, hpl⟩ := entHpP_ok (S := (((D.hd μ0).h.filter fun x => x.2.owner).map fun x => sig l nx x.1)) hnE hE fun x hx ho => List.mem_map.2 ⟨x, List.mem_filter.2 ⟨hx, ho⟩, rfl⟩
      have hin := sat_in_full (vB := D.base) (js := D.js) hs hA (entOvC_ok hnE hes htes) hhp hobj hinj (fun x hx => by
        have := List.all_eq_true.1 hltl x hx
        unfold Nat.blt at this
        exact Nat.le_of_ble_eq_true this) hdf hN (hvu 0)
      refine LoopY.comp hP hM hbody (n := n) (u := u) (L := L) (mode := mode u) (fun i hi => hX i u _ hi) (hob u) (fun i μ hm hi => hall i μ u hm hi) (fun i μ hm hi => hfs i μ u hm hi) (fun i hi => hlt i u hi) (hturn u) hxobj (hm0 u (D.hold_entry h0 u htf.2)) hin ?_
      intro i ν' ρE a' w' hi ⟨xs, hxs, htx⟩ hfixE hsE
      have hnX := D.nextX h0 u i
      obtain ⟨_, rfl⟩ := decP_ok hnX hrf hdec hxs htx
      have hts := stable_ok hnX hst hto
      obtain ⟨t1, t2⟩ := allT_append.1 hts
      unfold outOk at hok
      simp only [Bool.and_eq_true] at hok
      obtain ⟨⟨⟨hxo, hdiff⟩, hxall⟩, hrefs⟩ := hok
      have hxall := List.all_eq_true.1 hxall
      obtain ⟨hle, hso⟩ := sat_out_full (vB := D.base) (e := D.env env u i) (js := D.js) (nx' := nx + (D.hx ν).m) (news := D.newsL (D.hx ν) nx) hs hA hsE (tl := D.tlL l nx (D.hx ν)) (upds := D.updsL l nx _ (D.hx ν)) (outs := D.outsL l nx (D.hx ν))
        (fun m => by
          unfold updsL newsL
          rw [List.map_append, List.mem_append, keys1, keys2])
        (fun m hm => by
          obtain ⟨y, hy, rfl⟩ := List.mem_map.1 hm
          have := hxall y (List.mem_filter.1 hy).1
          rw [Bool.and_eq_true] at this
          have h1 := this.1
          unfold Nat.blt at h1
          have := Nat.le_of_ble_eq_true h1
          omega) (Nat.le_add_right ..)
        (updC_ok hnX he2 t2) (refsOk_ok hrefs) rfl hdiff
        (fun x hx => by
          obtain ⟨y, hy, rfl⟩ := List.mem_map.1 hx
          have := hxall y hy
          rw [Bool.and_eq_true, Bool.or_eq_true] at this
          simp only
          cases hf : inL y.1 D.fixed with
          | true =>
            have hk := List.all_eq_true.1 hfix y.1 (inL_iff.1 hf)
            obtain ⟨z, hz, hz1⟩ := List.mem_map.1 (inL_iff.1 hk)
            obtain ⟨o, ho, hpo⟩ := hpl z hz
            obtain ⟨q, hq⟩ := placed_some (hs.hs.objs _ o ho) hpo
            refine .inr ?_
            unfold ren1
            rw [hf]
            rw [hz1] at hq
            rw [show (bif true then sig l nx y.1 else nx + y.1) = sig l nx y.1 from rfl, hq]
            exact (hfixE y.1 (inL_iff.1 hf) q hq).symm
          | false =>
            rw [hf] at this
            rcases this.2 with h | h
            · cases h
            · refine .inl (List.mem_map.2 ⟨y, List.mem_filter.2 ⟨hy, ?_⟩, ?_⟩)
              · unfold isNew; rw [h, hf]; rfl
              · unfold ren1; rw [hf]; rfl)
        (entOvC_ok hnX he1 t1) hdf hN (hvu i) (fun j hj hno => ovGet_map hno)
      exact hQ _ a' w' hle hso
end LoopY
end Go.Sx
