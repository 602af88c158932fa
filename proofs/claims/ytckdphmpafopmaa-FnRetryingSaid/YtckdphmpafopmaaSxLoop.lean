/-
  SX, PART 17: loops: a body's paths; an invariant.
-/
import Derived.Test.YtckdphmpafopmaaSxArgs
namespace Go.Sx
open Go.RowKit
set_option linter.unusedVariables false
set_option linter.unusedSimpArgs false

/-! ### a frame of which some slots are known -/
def ovGet : List (Nat × SV) → Nat → Option SV
  | [], _ => none
  | (i, x) :: r, j => cond (Nat.beq i j) (some x) (ovGet r j)
def mkSl (ov : List (Nat × SV)) (u : Nat → Value) : Nat → Nat → List SV
  | _, 0 => []
  | j, n + 1 => (match ovGet ov j with | some x => x | none => .cst (u j)) :: mkSl ov u (j + 1) n

theorem mkSl_rels {env : Env} {ρ : PMap} {ov : List (Nat × SV)} {u : Nat → Value} {vs : List Value} (hu : ∀ (j : Nat) (v : Value), vs[j]? = some v → match ovGet ov j with | some x => x.Rel env ρ v | none => u j = v) : ∀ (us : List Value) (j n : Nat),
    (∀ k, vs[j + k]? = us[k]?) → us.length = n → SV.Rels env ρ (mkSl ov u j n) us
  | [], j, n, _, hn => by subst hn; rfl
  | v :: us, j, n, h, hn => by
    subst hn
    have h0 : vs[j]? = some v := by have := h 0; simpa using this
    refine ⟨v, us, rfl, ?_, mkSl_rels hu us (j + 1) us.length (fun k => ?_) rfl⟩
    · have := hu j v h0
      cases ho : ovGet ov j with
      | some x => rw [ho] at this; exact this
      | none => rw [ho] at this; exact this.symm
    · have := h (k + 1); rw [← Nat.add_assoc] at this; simpa [Nat.add_right_comm] using this

theorem ovGet_none : ∀ {l : List (Nat × SV)} {j : Nat}, j ∉ l.map (·.1) → ovGet l j = none
  | [], _, _ => rfl
  | (i, x) :: r, j, h => by
    simp only [List.map_cons, List.mem_cons, not_or] at h
    unfold ovGet
    have : Nat.beq i j = false := by rw [Bool.eq_false_iff]; intro e; exact h.1 (Nat.eq_of_beq_eq_true e).symm
    rw [this]
    exact ovGet_none h.2

theorem mkSl_get {ov : List (Nat × SV)} {u : Nat → Value} : ∀ (n j i : Nat), i < n → (mkSl ov u j n)[i]? = some (match ovGet ov (j + i) with | some x => x | none => .cst (u (j + i)))
  | 0, j, i, h => by omega
  | n + 1, j, 0, h => by simp [mkSl]
  | n + 1, j, i + 1, h => by
    simp only [mkSl, List.getElem?_cons_succ]
    rw [mkSl_get n (j + 1) i (by omega)]
    rw [show j + 1 + i = j + (i + 1) by omega]

/-! ### a loop of a function -/
def theLoop (P : Program) (f : FuncId) (k : Nat) : Code :=
  match P.funcs[f]? with
  | none => .skip
  | some fn =>
    match fn.body with
    | none => .skip
    | some b =>
      match (loopsOf b).find? (fun x => Nat.beq x.1 k) with
      | some x => x.2
      | none => .skip
def allDiff : List Nat → Bool
  | [] => true
  | n :: r => !(inL n r) && allDiff r
def loopsApart (P : Program) (f : FuncId) : Bool :=
  match P.funcs[f]? with
  | none => false
  | some fn =>
    match fn.body with
    | none => false
    | some b => allDiff ((loopsOf b).map (·.1))

theorem find_of_allDiff : ∀ {l : List (Nat × Code)} {k : Nat} {c : Code}, allDiff (l.map (·.1)) = true → (k, c) ∈ l → l.find? (fun x => Nat.beq x.1 k) = some (k, c)
  | [], k, c, _, h => by cases h
  | (m, d) :: r, k, c, hd, h => by
    simp only [List.map_cons, allDiff, Bool.and_eq_true, Bool.not_eq_true'] at hd
    rcases List.mem_cons.1 h with e | e
    · injection e with e1 e2; subst e1; subst e2; simp
    · have hne : Nat.beq m k = false := by
        rw [Bool.eq_false_iff]
        intro hb
        have := Nat.eq_of_beq_eq_true hb
        subst this
        have hm : m ∈ r.map (·.1) := List.mem_map.2 ⟨(m, c), e, rfl⟩
        rw [inL_iff.2 hm] at hd
        exact absurd hd.1 (by simp)
      rw [List.find?_cons]
      simp only [hne]
      exact find_of_allDiff hd.2 e

theorem theLoop_eq {P : Program} {f : FuncId} {fn : Func} {b c : Code} {k : Nat} (hd : loopsApart P f = true) (hf : P.funcs[f]? = some fn) (hb : fn.body = some b) (hm : (k, c) ∈ loopsOf b) : c = theLoop P f k := by
  unfold loopsApart at hd
  unfold theLoop
  rw [hf] at hd ⊢
  simp only at hd ⊢
  rw [hb] at hd ⊢
  simp only at hd ⊢
  rw [find_of_allDiff hd hm]

theorem loopsOf_sub {b : Code} {k : Nat} {c : Code} (h : (k, c) ∈ loopsOf b) : ∀ x ∈ loopsOf c, x ∈ loopsOf b := by
  induction b with
  | seq a b iha ihb =>
    simp only [loopsOf, List.mem_append] at h ⊢
    intro x hx
    rcases h with h | h
    · exact .inl (iha h x hx)
    · exact .inr (ihb h x hx)
  | cond o a b iha ihb =>
    simp only [loopsOf, List.mem_append] at h ⊢
    intro x hx
    rcases h with h | h
    · exact .inl (iha h x hx)
    · exact .inr (ihb h x hx)
  | block i a ih => simp only [loopsOf] at h ⊢; exact ih h
  | loop a ih =>
    simp only [loopsOf, List.mem_cons] at h ⊢
    intro x hx
    rcases h with h | h
    · injection h with h1 h2; subst h2; exact .inr hx
    · exact .inr (ih h x hx)
  | _ => simp [loopsOf] at h

theorem inBody_theLoop {P : Program} {f : FuncId} (k : Nat) (h : ((P.funcs[f]?).bind (·.body)).isSome = true) : InBody P f (loopsOf (theLoop P f k)) := by
  unfold theLoop
  cases hf : P.funcs[f]? with
  | none => rw [hf] at h; cases h
  | some fn =>
    rw [hf] at h
    cases hb : fn.body with
    | none => simp [hb] at h
    | some b =>
      refine ⟨fn, b, hf, hb, ?_⟩
      simp only [hb]
      cases hfd : (loopsOf b).find? (fun x => Nat.beq x.1 k) with
      | none => intro x hx; simp [loopsOf] at hx
      | some x =>
        have hm := List.mem_of_find?_eq_some hfd
        exact loopsOf_sub (k := x.1) hm

section
variable {P : Program} {env : Env} {X : XCtr} {w0 : Anchor}

/-- A loop's body: one of its paths is gone. -/
theorem wp_of_explore (hP : Plain P) (hM : P.follows .mixedOrders = true) (hX : ExtOk P env w0 (X.toExt P)) {fuel n : Nat} {f : FuncId} {c : Code} {fr : Fr} {h : CHeap} {nx : Nat} {fs : Facts} {l : List Leaf}
    (hfit : InBody P f (loopsOf c)) (he : explore P X fuel (.code f c fr) h nx n fs = .ok l) (hf : fs.Hold env) {ρ : PMap} {a : Act} {w : World} (hs : Sat env w0 ρ fr (cden h) nx a w) {K : Exit → Act → World → Prop}
    (hl : ∀ q ∈ l, q.fs.Hold env → (∀ e ∈ q.vcs, e.den env) ∧ ∀ ρ' a' w', ρ.le ρ' → Sat env w0 ρ' q.fr (cden q.h) q.nx a' w' → K q.ex.den a' w') : c.wp P K a w := by
  obtain ⟨q, hq, hqf, hj⟩ := explore_ok (P := P) (env := env) (cmd := .code f c fr) hfit n hf he
  obtain ⟨hv, hk⟩ := hl q hq hqf
  obtain ⟨ft, hj⟩ := hj hv
  have e2 : mv (cden h) (cden q.h) ft = cden q.h := by
    funext n
    unfold mv
    by_cases hm : n ∈ ft.wr
    · rw [if_pos hm]
    · rw [if_neg hm]; exact (hj.loc.1 n hm).symm
  refine (Ev.sound hP hM hX hj).2 (cden h) (fun _ _ => rfl) ρ a w K hs fun ρ' a' w' hle hs' => hk ρ' a' w' hle ?_
  have hs2 : Sat env w0 ρ' q.fr (mv (cden h) (cden q.h) ft) q.nx a' w' := hs'
  rw [e2] at hs2
  exact hs2

/-- A loop by an invariant that counts down. -/
theorem loop_inv {c : Code} {Q : Exit → Act → World → Prop} (I : Nat → Act → World → Prop) (step : ∀ n a w, I n a w → c.wp P (Exit.then (fun a' w' => ∃ m, n = m + 1 ∧ I m a' w') Q) a w) :
    ∀ n a w, I n a w → (Code.loop c).wp P Q a w := by
  have rounds : ∀ n a w, I n a w → Code.rounds P c Q (n + 1) a w := by
    intro n
    induction n with
    | zero =>
      intro a w h
      rw [rounds_succ]
      refine wp_mono (step 0 a w h) ?_
      intro e a' w' he
      cases e with
      | normal => obtain ⟨m, hm, _⟩ := he; omega
      | _ => exact he
    | succ n ih =>
      intro a w h
      rw [rounds_succ]
      refine wp_mono (step (n + 1) a w h) ?_
      intro e a' w' he
      cases e with
      | normal =>
        obtain ⟨m, hm, hI⟩ := he
        have : m = n := by omega
        subst this
        exact ih a' w' hI
      | _ => exact he
  exact fun n a w h => wp_loop_rounds (n + 1) (rounds n a w h)

end
end Go.Sx
