/-
  SX, PART 4: when a world and a frame are as the symbolic ones say; how that is kept when a block is written or made.
-/
import Derived.Test.YtckdphmpafopmaaSxOps
namespace Go.Sx
open Go.RowKit
set_option linter.unusedVariables false
set_option linter.unusedSimpArgs false

/-! ## Runs without footprints -/
def Prog.Run {α : Type} (env : Env) : Prog α → Heap → α → Heap → Prop
  | .ret a, h, b, h' => a = b ∧ h = h'
  | .fail _, _, _, _ => False
  | .get n k, h, b, h' => ∃ o, hget h n = some o ∧ (k o).Run env h b h'
  | .put n o k, h, b, h' => k.Run env (hput h n o) b h'
  | .vc e k, h, b, h' => e.den env ∧ k.Run env h b h'
  | .dec e k, h, b, h' => (k (e.den env).B).Run env h b h'

theorem Prog.Ev.run {α : Type} {env : Env} : ∀ {p : Prog α} {h : Heap} {a : α} {h' : Heap} {f f' : Foot}, p.Ev env h a h' f f' → p.Run env h a h'
  | .ret _, _, _, _, _, _, e => ⟨e.1, e.2.1⟩
  | .fail _, _, _, _, _, _, e => e
  | .get _ k, _, _, _, _, _, ⟨o, h1, h2⟩ => ⟨o, h1, Prog.Ev.run h2⟩
  | .put _ _ k, _, _, _, _, _, e => Prog.Ev.run (p := k) e
  | .vc _ k, _, _, _, _, _, e => ⟨e.1, Prog.Ev.run e.2⟩
  | .dec _ k, _, _, _, _, _, e => Prog.Ev.run (p := k _) e

section
variable {α β : Type} {env : Env} {h h' : Heap}
theorem run_bind {p : Prog α} {f : α → Prog β} {b : β} : (p >>= f).Run env h b h' ↔ ∃ a h1, p.Run env h a h1 ∧ (f a).Run env h1 b h' := by
  show (p.bind f).Run env h b h' ↔ _
  induction p generalizing h with
  | ret a =>
    simp only [Prog.bind, Prog.Run]
    exact ⟨fun h => ⟨a, _, ⟨rfl, rfl⟩, h⟩, fun ⟨_, _, ⟨h1, h2⟩, h⟩ => by subst h1; subst h2; exact h⟩
  | fail m => simp [Prog.bind, Prog.Run]
  | get n k ih =>
    simp only [Prog.bind, Prog.Run, ih]
    constructor
    · rintro ⟨o, h1, a, h2, h3, h4⟩; exact ⟨a, h2, ⟨o, h1, h3⟩, h4⟩
    · rintro ⟨a, h2, ⟨o, h1, h3⟩, h4⟩; exact ⟨o, h1, a, h2, h3, h4⟩
  | put n o k ih => simp only [Prog.bind, Prog.Run, ih]
  | vc e k ih =>
    simp only [Prog.bind, Prog.Run, ih]
    constructor
    · rintro ⟨h1, a, h2, h3, h4⟩; exact ⟨a, h2, ⟨h1, h3⟩, h4⟩
    · rintro ⟨a, h2, ⟨h1, h3⟩, h4⟩; exact ⟨h1, a, h2, h3, h4⟩
  | dec e k ih => simp only [Prog.bind, Prog.Run, ih]
theorem run_pure {a b : α} : (pure a : Prog α).Run env h b h' ↔ a = b ∧ h = h' := Iff.rfl
theorem run_ret {a b : α} : (Prog.ret a : Prog α).Run env h b h' ↔ a = b ∧ h = h' := Iff.rfl
theorem run_fail {m : String} {b : α} : (Prog.fail m : Prog α).Run env h b h' ↔ False := Iff.rfl
theorem run_ofOpt {o : Option α} {m : String} {b : α} : (ofOpt o m).Run env h b h' ↔ o = some b ∧ h = h' := by
  cases o <;> simp [ofOpt, Prog.Run]
theorem run_must {c : Bool} {m : String} {b : Unit} : (must c m).Run env h b h' ↔ c = true ∧ h = h' := by
  cases c <;> simp [must, Prog.Run]
theorem run_vcE {e : E} {b : Unit} : (vcE e).Run env h b h' ↔ (e.den env).B = true ∧ h = h' := by
  simp [vcE, Prog.Run, Ob.den]
theorem run_vcO {o : Ob} {b : Unit} : (vcO o).Run env h b h' ↔ o.den env ∧ h = h' := by
  simp [vcO, Prog.Run]
theorem run_decE {e : E} {b : Bool} : (decE e).Run env h b h' ↔ (e.den env).B = b ∧ h = h' := Iff.rfl
theorem run_getN {n : Nat} {o : SObj} : (getN n).Run env h o h' ↔ hget h n = some o ∧ h = h' := by
  simp only [getN, Prog.Run]
  constructor
  · rintro ⟨x, h1, rfl, rfl⟩; exact ⟨h1, rfl⟩
  · rintro ⟨h1, rfl⟩; exact ⟨o, h1, rfl, rfl⟩
theorem run_putN {n : Nat} {o : SObj} {b : Unit} : (putN n o).Run env h b h' ↔ hput h n o = h' := by
  simp [putN, Prog.Run]
end

/-! ## Worlds -/
def _root_.Go.World.setBlk (w : World) (b : Nat) (o : Obj) : World := { w with heap := w.heap.setIfInBounds b o }

theorem setBlk_same {w : World} {b : Nat} {o o' : Obj} (h : w.heap[b]? = some o') : (w.setBlk b o).heap[b]? = some o := by
  have : b < w.heap.size := (Array.getElem?_eq_some_iff.1 h).1
  simp [World.setBlk, Array.getElem?_setIfInBounds, this]
theorem setBlk_other {w : World} {b c : Nat} {o : Obj} (h : c ≠ b) : (w.setBlk b o).heap[c]? = w.heap[c]? := by
  simp [World.setBlk, Array.getElem?_setIfInBounds, Ne.symm h]
/-- A world that a run is measured against, and its blocks that stay. -/
structure Anchor where
  w : World
  K : Nat → Prop
  F : Nat → Prop
  lt : ∀ k, K k → k < w.heap.size
structure Kept (A : Anchor) (w : World) : Prop where
  os : w.os = A.w.os
  tape : w.tape = A.w.tape
  output : w.output = A.w.output
  size : A.w.heap.size ≤ w.heap.size
  block : ∀ k, A.K k → w.heap[k]? = A.w.heap[k]?
def anchor (w : World) : Anchor := ⟨w, fun k => k < w.heap.size, fun _ => True, fun _ h => h⟩
theorem Kept.refl (A : Anchor) : Kept A A.w := ⟨rfl, rfl, rfl, Nat.le_refl _, fun _ _ => rfl⟩
theorem Kept.setBlk {A : Anchor} {w : World} (h : Kept A w) {b : Nat} (hb : ¬ A.K b) (o : Obj) : Kept A (w.setBlk b o) :=
  ⟨h.os, h.tape, h.output, by simpa [World.setBlk] using h.size, fun k hk => by
    rw [setBlk_other (fun (e : k = b) => hb (by rw [← e]; exact hk))]
    exact h.block k hk⟩
theorem Kept.fresh {A : Anchor} {w : World} (h : Kept A w) : ¬ A.K w.heap.size := fun hk => by
  have := A.lt _ hk
  have := h.size
  omega
theorem Kept.alloc {A : Anchor} {w : World} (h : Kept A w) (o : Obj) : Kept A { w with heap := w.heap.push o } :=
  ⟨h.os, h.tape, h.output, by have := h.size; simp; omega, fun k hk => by
    have h1 := A.lt k hk
    have h2 := h.size
    show (w.heap.push o)[k]? = _
    rw [Array.getElem?_push, if_neg (by omega)]
    exact h.block k hk⟩
theorem Kept.cell {A : Anchor} {w : World} (h : Kept A w) {p : Addr} (hp : A.K p.block) : w.cell? p = A.w.cell? p := World.cell?_of_block (w := A.w) (h.block p.block hp)
theorem Kept.below {W w : World} (h : Kept (anchor W) w) : Below W.heap.size W w := ⟨h.os, h.tape, h.output, h.size, h.block⟩

theorem cell_of {w : World} {b : Nat} {c : Array Value} {T : TypeId} {fz : Nat × Nat} (h : w.heap[b]? = some (.cells c T fz)) (o : Nat) : w.cell? ⟨b, o, none⟩ = c[o]? := by
  simp [World.cell?, h]

/-! ## Objects in memory -/
def RowRel (env : Env) (ρ : PMap) (sz : Nat) (len : E) (cols : List Col) (tail : List (List SV)) (vs : List Value) : Prop :=
  ∃ base tl, vs = base ++ tl ∧ base.length = (len.den env).I.toNat * sz ∧
    (∀ (i : Nat), i < (len.den env).I.toNat → ∀ (j : Nat) (col : Col), cols[j]? = some col → ∃ v, base[i * sz + j]? = some v ∧ (col.at (.il i)).Rel env ρ v) ∧
    SV.Rels env ρ tail.flatten tl ∧ (∀ t ∈ tail, t.length = sz) ∧ cols.length ≤ sz

/-- A map's entries, read as a function of the key. -/
def mlook : List MapEntry → Value → Option Value
  | [], _ => none
  | e :: es, k => cond (keyEq e.key k) (some e.val) (mlook es k)
structure MapOk (kk : KK) (es : List MapEntry) (clk : Nat) : Prop where
  keys : ∀ e ∈ es, kk.ok e.key
  nodup : es.Pairwise fun a b => a.key ≠ b.key
  born : ∀ e ∈ es, e.born < clk
  apart : es.Pairwise fun a b => a.born ≠ b.born
def KV.Rel (env : Env) (ρ : PMap) : KV → Option Value → Prop
  | .no, o => o = none
  | .yes x, o => ∃ v, o = some v ∧ x.Rel env ρ v
  | .may b x, o => cond (b.den env).B (∃ v, o = some v ∧ x.Rel env ρ v) (o = none)
theorem KV.Rel.mono {env : Env} {ρ ρ' : PMap} (h : ρ.le ρ') : ∀ {x : KV} {o : Option Value}, x.Rel env ρ o → x.Rel env ρ' o
  | .no, _, r => r
  | .yes x, _, ⟨v, e, r⟩ => ⟨v, e, r.mono h⟩
  | .may b x, o, r => by
    simp only [KV.Rel] at r ⊢
    cases hb : (b.den env).B with
    | true => rw [hb] at r; obtain ⟨v, e, r⟩ := r; exact ⟨v, e, r.mono h⟩
    | false => rw [hb] at r; exact r
def KnownRel (env : Env) (ρ : PMap) (kk : KK) : List (SV × KV) → List (Value × Option Value) → Prop
  | [], kv => kv = []
  | (k, x) :: l, kv => ∃ a b r, kv = (a, b) :: r ∧ kk.ok a ∧ k.Rel env ρ a ∧ x.Rel env ρ b ∧ KnownRel env ρ kk l r
theorem KnownRel.mono {env : Env} {ρ ρ' : PMap} (h : ρ.le ρ') {kk : KK} : ∀ {l : List (SV × KV)} {kv : List (Value × Option Value)}, KnownRel env ρ kk l kv → KnownRel env ρ' kk l kv
  | [], _, r => r
  | (k, x) :: l, kv, ⟨a, b, r, e, h1, h2, h3, h4⟩ => by
    exact ⟨a, b, r, e, h1, h2.mono h, h3.mono h, KnownRel.mono h h4⟩

def SObj.Rel (env : Env) (w0 : Anchor) (ρ : PMap) (n : Nat) : SObj → World → Prop
  | .cells T cs, w => ∃ p vs, ρ n = some p ∧ ¬ w0.K p.block ∧ p.base = 0 ∧ p.nil = false ∧ SV.Rels env ρ cs vs ∧ w.heap[p.block]? = some (.cells vs.toArray T (0, 0))
  | .row T sz len cols tail, w => ∃ p vs rest, ρ n = some p ∧ ¬ w0.K p.block ∧ p.base = 0 ∧ p.nil = false ∧
      RowRel env ρ sz len cols tail vs ∧ (vs ++ rest).length = p.cap * sz ∧ w.heap[p.block]? = some (.cells (vs ++ rest).toArray T (0, 0))
  | .inp sz len cols, w => ∃ p, ρ n = some p ∧ (len.den env).I.toNat ≤ p.cap ∧ (p.nil = true → p.cap = 0) ∧ (0 < p.cap → w0.K p.block) ∧
      ∀ (i : Nat), i < (len.den env).I.toNat → ∀ (j : Nat) (col : Col), cols[j]? = some col → ∃ v, w0.w.cell? ⟨p.block, p.base + i * sz + j, none⟩ = some v ∧ (col.at (.il i)).Rel env ρ v
  | .map m ix kk sz known, w => ∃ p es clk kv, ρ n = some p ∧ ¬ w0.K p.block ∧ p.base = 0 ∧ p.nil = false ∧ w.heap[p.block]? = some (.map es clk) ∧ MapOk kk es.toList clk ∧ (es.size : Int) = (sz.den env).I ∧
      KnownRel env ρ kk known kv ∧ ∀ k, kk.ok k → mlook es.toList k = cont kv (res env m (ix.den env).I) k
  | .abs k st refs, w => ∃ p b, ρ n = some p ∧ ¬ w0.K p.block ∧ p.base = 0 ∧ p.nil = false ∧ w.heap[p.block]? = some b
  | .chan c, w => ∃ p room buf s r t, ρ n = some p ∧ ¬ w0.K p.block ∧ p.base = 0 ∧ p.nil = false ∧ w.heap[p.block]? = some (.chan room buf (c.den env).B s r t)
  | .resv, _ => ρ n = none
  | .gone, _ => True

def SObj.owner : SObj → Bool
  | .cells .. => true
  | .row .. => true
  | .map .. => true
  | .abs .. => true
  | .chan .. => true
  | _ => false
def SObj.isAbs : SObj → Bool
  | .abs .. => true
  | _ => false

theorem RowRel.mono {env : Env} {ρ ρ' : PMap} (hl : ρ.le ρ') {sz : Nat} {len : E} {cols : List Col} {tail : List (List SV)} {vs : List Value}
    (h : RowRel env ρ sz len cols tail vs) : RowRel env ρ' sz len cols tail vs := by
  obtain ⟨b, t, h1, h2, h3, h4, h5, h6⟩ := h
  refine ⟨b, t, h1, h2, fun i hi j col hj => ?_, h4.mono hl, h5, h6⟩
  obtain ⟨v, hv, hr⟩ := h3 i hi j col hj
  exact ⟨v, hv, hr.mono hl⟩

/-- An object's reading hangs on its own block alone. -/
theorem SObj.Rel.keep {env : Env} {w0 : Anchor} {w w' : World} {ρ ρ' : PMap} (hl : ρ.le ρ') {n : Nat} {o : SObj} (h : o.Rel env w0 ρ n w)
    (hb : ∀ p, o.owner = true → ρ n = some p → w'.heap[p.block]? = w.heap[p.block]?) (hr : ρ n = none → o = .resv → ρ' n = none) : o.Rel env w0 ρ' n w' := by
  cases o with
  | cells T cs =>
    obtain ⟨p, vs, h1, h2, h3, h4, h5, h6⟩ := h
    exact ⟨p, vs, hl _ _ h1, h2, h3, h4, h5.mono hl, by rw [hb p rfl h1]; exact h6⟩
  | row T sz len cols tail =>
    obtain ⟨p, vs, rest, h1, h2, h3, h4, h5, h6, h7⟩ := h
    exact ⟨p, vs, rest, hl _ _ h1, h2, h3, h4, h5.mono hl, h6, by rw [hb p rfl h1]; exact h7⟩
  | inp sz len cols =>
    obtain ⟨p, h1, h2, h3, h4, h5⟩ := h
    refine ⟨p, hl _ _ h1, h2, h3, h4, fun i hi j col hj => ?_⟩
    obtain ⟨v, hv, hr⟩ := h5 i hi j col hj
    exact ⟨v, hv, hr.mono hl⟩
  | map m ix kk sz k =>
    obtain ⟨p, es, clk, kv, h1, h2, h3, h4, h5, h6, h7, h8, h9⟩ := h
    exact ⟨p, es, clk, kv, hl _ _ h1, h2, h3, h4, by rw [hb p rfl h1]; exact h5, h6, h7, h8.mono hl, h9⟩
  | abs k st refs =>
    obtain ⟨p, b, h1, h2, h3, h4, h5⟩ := h
    exact ⟨p, b, hl _ _ h1, h2, h3, h4, by rw [hb p rfl h1]; exact h5⟩
  | chan c =>
    obtain ⟨p, room, buf, s, r, t, h1, h2, h3, h4, h5⟩ := h
    exact ⟨p, room, buf, s, r, t, hl _ _ h1, h2, h3, h4, by rw [hb p rfl h1]; exact h5⟩
  | resv => exact hr h rfl
  | gone => trivial

/-- The places of names that an abstract object leans on. -/
def refPl (ρ : PMap) (refs : List Nat) (qs : List (Nat × Nat)) : Prop := refs.map (fun m => (ρ m).map fun p => (p.block, p.base)) = qs.map some
/-- Abstract objects: what is asked of each is so, and hangs on its own blocks alone. -/
structure AbsAll (env : Env) (w0 : Anchor) (ρ : PMap) (h : Heap) (w : World) (μ : Nat → Nat → Prop) : Prop where
  holds : ∀ n k st refs, hget h n = some (.abs k st refs) → ∃ p qs, ρ n = some p ∧ refPl ρ refs qs ∧ ∀ w' : World, (∀ c, c = p.block ∨ μ n c → w'.heap[c]? = w.heap[c]?) → env.ab k (st.den env).I p.block (μ n) qs w'
  own : ∀ n k st refs c, hget h n = some (.abs k st refs) → μ n c → c < w.heap.size ∧ ¬ w0.K c
  apart : ∀ n k st refs c m o q, hget h n = some (.abs k st refs) → μ n c → hget h m = some o → o.owner = true → ρ m = some q → q.block ≠ c
  apart2 : ∀ n k st refs m k' st' refs' c, hget h n = some (.abs k st refs) → hget h m = some (.abs k' st' refs') → μ n c → μ m c → n = m
  fz : ∀ n k st refs c, hget h n = some (.abs k st refs) → μ n c → ρ.fz c = none
/-- The blocks that never change hold what is said, and are no named object's; those of them that were there when the run began were such then. -/
structure FzOk (w0 : Anchor) (ρ : PMap) (h : Heap) (w : World) : Prop where
  at_ : ∀ b x, ρ.fz b = some x → w.heap[b]? = some x
  free : ∀ b x n o p, ρ.fz b = some x → hget h n = some o → o.owner = true → ρ n = some p → p.block ≠ b
  old : ∀ b x, ρ.fz b = some x → w0.K b → w0.F b
theorem FzOk.keep {A : Anchor} {ρ ρ' : PMap} {h h' : Heap} {w w' : World} (H : FzOk A ρ h w) (h1 : ρ'.fz = ρ.fz) (h2 : ∀ b x, ρ.fz b = some x → w.heap[b]? = some x → w'.heap[b]? = some x)
    (h3 : ∀ m o q, hget h' m = some o → o.owner = true → ρ' m = some q → (∃ m' o' q', hget h m' = some o' ∧ o'.owner = true ∧ ρ m' = some q' ∧ q'.block = q.block) ∨ w.heap.size ≤ q.block) : FzOk A ρ' h' w' := by
  refine ⟨fun b x hb => h2 b x (by rw [← h1]; exact hb) (H.at_ b x (by rw [← h1]; exact hb)), fun b x n o p hb hn ho hp => ?_, fun b x hb => H.old b x (by rw [← h1]; exact hb)⟩
  rw [h1] at hb
  rcases h3 n o p hn ho hp with ⟨m', o', q', g1, g2, g3, g4⟩ | hlt
  · rw [← g4]; exact H.free b x m' o' q' hb g1 g2 g3
  · have := (Array.getElem?_eq_some_iff.1 (H.at_ b x hb)).1
    omega

structure HSat (env : Env) (w0 : Anchor) (ρ : PMap) (h : Heap) (w : World) : Prop where
  below : Kept w0 w
  objs : ∀ n o, hget h n = some o → o.Rel env w0 ρ n w
  inj : ∀ m n o o' p q, hget h m = some o → hget h n = some o' → o.owner = true → o'.owner = true → ρ m = some p → ρ n = some q → p.block = q.block → m = n
  abs : ∃ μ, AbsAll env w0 ρ h w μ
  fz : FzOk w0 ρ h w

/-- Where there are none. -/
theorem AbsAll.none {env : Env} {w0 : Anchor} {ρ : PMap} {h : Heap} {w : World} (hn : ∀ n o, hget h n = some o → o.isAbs = false) : ∃ μ, AbsAll env w0 ρ h w μ := by
  have no : ∀ {n k st refs}, hget h n = some (.abs k st refs) → False := fun hx => by have := hn _ _ hx; cases this
  exact ⟨fun _ _ => False, fun n k st refs hx => (no hx).elim, fun n k st refs c hx => (no hx).elim, fun n k st refs c m o q hx => (no hx).elim, fun n k st refs m k' st' refs' c hx => (no hx).elim, fun n k st refs c hx => (no hx).elim⟩

theorem refPl_mono {ρ ρ' : PMap} {refs : List Nat} {qs : List (Nat × Nat)} (hl : ρ.le ρ') (h : refPl ρ refs qs) : refPl ρ' refs qs := by
  unfold refPl at h ⊢
  induction refs generalizing qs with
  | nil => exact h
  | cons m r ih =>
    cases qs with
    | nil => simp at h
    | cons q qs =>
      simp only [List.map_cons, List.cons.injEq] at h ⊢
      refine ⟨?_, ih h.2⟩
      cases hm : ρ m with
      | none => rw [hm] at h; simp at h
      | some p => rw [hl m p hm]; rw [hm] at h; exact h.1

/-- The abstract objects of one state, out of those of another, by names turned with 'σ'. -/
theorem AbsAll.turn {env env' : Env} {A A' : Anchor} {ρ ρ' : PMap} {h h' : Heap} {w w' : World} {μ : Nat → Nat → Prop} (hA : AbsAll env A ρ h w μ) (σ : Nat → Nat)
    (h1 : ∀ n k st refs, hget h' n = some (.abs k st refs) → ∃ st0, hget h (σ n) = some (.abs k st0 (refs.map σ)) ∧ (st0.den env).I = (st.den env').I ∧ ρ' n = ρ (σ n) ∧ ∀ m ∈ refs, ρ' m = ρ (σ m))
    (hab : env'.ab = env.ab)
    (h2 : ∀ n k st refs p c, hget h' n = some (.abs k st refs) → ρ (σ n) = some p → c = p.block ∨ μ (σ n) c → w'.heap[c]? = w.heap[c]?)
    (h2' : ∀ n k st refs c, hget h' n = some (.abs k st refs) → μ (σ n) c → c < w'.heap.size ∧ ¬ A'.K c)
    (h3 : ∀ n k st refs c m o q, hget h' n = some (.abs k st refs) → μ (σ n) c → hget h' m = some o → o.owner = true → ρ' m = some q → q.block ≠ c)
    (h4 : ∀ n k st refs m k' st' refs', hget h' n = some (.abs k st refs) → hget h' m = some (.abs k' st' refs') → σ n = σ m → n = m)
    (h5 : ∀ n k st refs c, hget h (σ n) = some (.abs k st refs) → μ (σ n) c → ρ'.fz c = Option.none) :
    AbsAll env' A' ρ' h' w' (fun n => μ (σ n)) := by
  refine ⟨fun n k st refs hn => ?_, fun n k st refs c hn hc => h2' n k st refs c hn hc, fun n k st refs c m o q hn hc hm ho hq => h3 n k st refs c m o q hn hc hm ho hq, fun n k st refs m k' st' refs' c hn hm hc hc' => ?_, fun n k st refs c hn hc => (h1 n k st refs hn).elim fun _ g => h5 n k _ _ c g.1 hc⟩
  · obtain ⟨st0, g1, g2, g3, g4⟩ := h1 n k st refs hn
    obtain ⟨p, qs, hp, hq, hh⟩ := hA.holds _ _ _ _ g1
    refine ⟨p, qs, g3.trans hp, ?_, fun w2 hw2 => ?_⟩
    · unfold refPl at hq ⊢
      rw [← hq, List.map_map]
      exact List.map_congr_left fun m hm => by simp only [Function.comp_apply, g4 m hm]
    · rw [hab, ← g2]
      exact hh w2 fun c hc => (hw2 c hc).trans (h2 n k st refs p c hn hp hc)
  · obtain ⟨_, g1, _⟩ := h1 n k st refs hn
    obtain ⟨_, g2, _⟩ := h1 m k' st' refs' hm
    exact h4 n k st refs m k' st' refs' hn hm (hA.apart2 _ _ _ _ _ _ _ _ c g1 g2 hc hc')

/-- The same, with the same names: some objects that are none of them were put or struck. -/
theorem AbsAll.keep {env : Env} {A A' : Anchor} {ρ ρ' : PMap} {h h' : Heap} {w w' : World} {μ : Nat → Nat → Prop} (hA : AbsAll env A ρ h w μ) (hl : ρ.le ρ')
    (h1 : ∀ n k st refs, hget h' n = some (.abs k st refs) → hget h n = some (.abs k st refs))
    (h2 : ∀ n k st refs p c, hget h n = some (.abs k st refs) → ρ n = some p → c = p.block ∨ μ n c → w'.heap[c]? = w.heap[c]?) (hsz : w.heap.size ≤ w'.heap.size) (hK : ∀ c, ¬ A.K c → ¬ A'.K c)
    (h3 : ∀ m o q, hget h' m = some o → o.owner = true → ρ' m = some q → (∃ m' o' q', hget h m' = some o' ∧ o'.owner = true ∧ ρ m' = some q' ∧ q'.block = q.block) ∨ w.heap.size ≤ q.block)
    (h4 : ∀ c, ρ.fz c = Option.none → ρ'.fz c = Option.none := by exact fun _ h => h) :
    AbsAll env A' ρ' h' w' μ := by
  refine ⟨fun n k st refs hn => ?_, fun n k st refs c hn hc => ?_, fun n k st refs c m o q hn hc hm ho hq => ?_, fun n k st refs m k' st' refs' c hn hm hc hc' => hA.apart2 n k st refs m k' st' refs' c (h1 _ _ _ _ hn) (h1 _ _ _ _ hm) hc hc', fun n k st refs c hn hc => h4 c (hA.fz n k st refs c (h1 _ _ _ _ hn) hc)⟩
  · obtain ⟨p, qs, hp, hq, hh⟩ := hA.holds _ _ _ _ (h1 _ _ _ _ hn)
    exact ⟨p, qs, hl _ _ hp, refPl_mono hl hq, fun w2 hw2 => hh w2 fun c hc => (hw2 c hc).trans (h2 n k st refs p c (h1 _ _ _ _ hn) hp hc)⟩
  · obtain ⟨a, b⟩ := hA.own n k st refs c (h1 _ _ _ _ hn) hc
    exact ⟨Nat.lt_of_lt_of_le a hsz, hK c b⟩
  · rcases h3 m o q hm ho hq with ⟨m', o', q', g1, g2, g3, g4⟩ | hlt
    · rw [← g4]; exact hA.apart n k st refs c m' o' q' (h1 _ _ _ _ hn) hc g1 g2 g3
    · have := (hA.own n k st refs c (h1 _ _ _ _ hn) hc).1
      omega

theorem SObj.Rel.place {env : Env} {w0 : Anchor} {w : World} {ρ : PMap} {n : Nat} {o : SObj} (h : o.Rel env w0 ρ n w) (ho : o.owner = true) :
    ∃ p b, ρ n = some p ∧ ¬ w0.K p.block ∧ w.heap[p.block]? = some b := by
  cases o with
  | cells T cs => obtain ⟨p, vs, h1, h2, h3, h4, h5, h6⟩ := h; exact ⟨p, _, h1, h2, h6⟩
  | row T sz len cols tail => obtain ⟨p, vs, rest, h1, h2, h3, h4, h5, h6, h7⟩ := h; exact ⟨p, _, h1, h2, h7⟩
  | map m ix kk sz k => obtain ⟨p, es, clk, kv, h1, h2, h3, h4, h5, h6⟩ := h; exact ⟨p, _, h1, h2, h5⟩
  | abs k st refs => obtain ⟨p, b, h1, h2, h3, h4, h5⟩ := h; exact ⟨p, b, h1, h2, h5⟩
  | chan c => obtain ⟨p, room, buf, s, r, t, h1, h2, h3, h4, h5⟩ := h; exact ⟨p, _, h1, h2, h5⟩
  | inp => cases ho
  | resv => cases ho
  | gone => cases ho

/-- The block of one object is written. -/
theorem HSat.update {env : Env} {w0 : Anchor} {w : World} {ρ : PMap} {h : Heap} (H : HSat env w0 ρ h w) {n : Nat} {o o' : SObj} {p : Pl} {b : Obj}
    (hn : hget h n = some o) (ho : o.owner = true) (hp : ρ n = some p) (ho' : o'.owner = true) (hr : o'.Rel env w0 ρ n (w.setBlk p.block b)) (hab : o.isAbs = false ∧ o'.isAbs = false := by exact ⟨rfl, rfl⟩) :
    HSat env w0 ρ (hput h n o') (w.setBlk p.block b) := by
  obtain ⟨q, bb, hq, hqb, hqw⟩ := (H.objs n o hn).place ho
  have : q = p := by rw [hp] at hq; exact (Option.some.inj hq).symm
  subst this
  have habs : ∃ μ, AbsAll env w0 ρ (hput h n o') (w.setBlk q.block b) μ := by
    obtain ⟨μ, hA⟩ := H.abs
    refine ⟨μ, hA.keep (PMap.le_refl ρ) (fun m k st refs hm => ?_) (fun m k st refs p' c hm hp' hc => setBlk_other fun e => ?_) (by simp [World.setBlk]) (fun _ h => h) (fun m x q' hm hx hq' => .inl ?_)⟩
    · rw [hget_hput] at hm
      by_cases e : m = n
      · subst e; simp at hm; subst hm; cases hab.2
      · rw [if_neg e] at hm; exact hm
    · rcases hc with rfl | hc
      · have := H.inj m n _ o p' q hm hn rfl ho hp' hp e
        subst this
        rw [hn] at hm; injection hm with hm; subst hm; cases hab.1
      · exact hA.apart m k st refs c n o q hm hc hn ho hp e.symm
    · rw [hget_hput] at hm
      by_cases e : m = n
      · subst e
        exact ⟨m, o, q, hn, ho, hp, by rw [hp] at hq'; injection hq' with hq'; rw [hq']⟩
      · rw [if_neg e] at hm; exact ⟨m, x, q', hm, hx, hq', rfl⟩
  have hfz : FzOk w0 ρ (hput h n o') (w.setBlk q.block b) := by
    refine H.fz.keep rfl (fun c x hc hx => (setBlk_other (H.fz.free c x n o q hc hn ho hp).symm).trans hx) (fun m x q' hm hx hq' => .inl ?_)
    rw [hget_hput] at hm
    by_cases e : m = n
    · subst e
      exact ⟨m, o, q, hn, ho, hp, by rw [hp] at hq'; injection hq' with hq'; rw [hq']⟩
    · rw [if_neg e] at hm; exact ⟨m, x, q', hm, hx, hq', rfl⟩
  refine ⟨H.below.setBlk hqb b, fun m x hm => ?_, fun m k x y p' q' hm hk hx hy hp' hq' he => ?_, habs, hfz⟩
  · rw [hget_hput] at hm
    by_cases e : m = n
    · subst e; simp at hm; subst hm; exact hr
    · rw [if_neg e] at hm
      refine (H.objs m x hm).keep (PMap.le_refl ρ) (fun p' hx hp' => setBlk_other fun he => e ?_) (fun h _ => h)
      exact H.inj m n x o p' q hm hn hx ho hp' hp he
  · rw [hget_hput] at hm hk
    by_cases e1 : m = n
    · by_cases e2 : k = n
      · rw [e1, e2]
      · rw [if_neg e2] at hk
        subst e1
        exact H.inj m k o y p' q' hn hk ho hy hp' hq' he
    · rw [if_neg e1] at hm
      by_cases e2 : k = n
      · subst e2
        exact H.inj m k x o p' q' hm hn hx ho hp' hq' he
      · rw [if_neg e2] at hk
        exact H.inj m k x y p' q' hm hk hx hy hp' hq' he

def PMap.set (ρ : PMap) (n : Nat) (p : Pl) : PMap := ⟨fun m => if m = n then some p else ρ m, ρ.fz⟩
theorem PMap.set_ne {ρ : PMap} {n m : Nat} {p : Pl} (e : ¬ m = n) : (ρ.set n p) m = ρ m := if_neg e
theorem PMap.set_eq {ρ : PMap} {n : Nat} {p : Pl} : (ρ.set n p) n = some p := if_pos rfl
theorem PMap.set_fz {ρ : PMap} {n : Nat} {p : Pl} : (ρ.set n p).fz = ρ.fz := rfl
theorem PMap.le_set {ρ : PMap} {n : Nat} (h : ρ n = none) (p : Pl) : ρ.le (ρ.set n p) := ⟨fun m q hm => by
  by_cases e : m = n
  · subst e; rw [h] at hm; cases hm
  · rw [PMap.set_ne e]; exact hm, fun _ _ h => h⟩

/-- A block is made, for a name that was kept free. -/
theorem HSat.alloc {env : Env} {w0 : Anchor} {w : World} {ρ : PMap} {h : Heap} (H : HSat env w0 ρ h w) {n : Nat} {o : SObj} {b : Obj} {p : Pl}
    (hn : hget h n = some .resv) (hpb : p.block = w.heap.size) (ho : o.owner = true)
    (hr : o.Rel env w0 (ρ.set n p) n { w with heap := w.heap.push b }) (hab : o.isAbs = false := by exact rfl) :
    HSat env w0 (ρ.set n p) (hput h n o) { w with heap := w.heap.push b } := by
  have hnone : ρ n = none := H.objs n .resv hn
  have hle := PMap.le_set hnone p
  have hsz := H.below.size
  have habs : ∃ μ, AbsAll env w0 (ρ.set n p) (hput h n o) { w with heap := w.heap.push b } μ := by
    obtain ⟨μ, hA⟩ := H.abs
    refine ⟨μ, hA.keep hle (fun m k st refs hm => ?_) (fun m k st refs p' c hm hp' hc => ?_) (by simp) (fun _ h => h) (fun m x q' hm hx hq' => ?_)⟩
    · rw [hget_hput] at hm
      by_cases e : m = n
      · subst e; simp at hm; subst hm; cases hab
      · rw [if_neg e] at hm; exact hm
    · have hlt : c < w.heap.size := by
        rcases hc with rfl | hc
        · obtain ⟨q, bb, hq, _, hqw⟩ := (H.objs m _ hm).place rfl
          rw [hp'] at hq; injection hq with hq; subst hq
          exact (Array.getElem?_eq_some_iff.1 hqw).1
        · exact (hA.own m k st refs c hm hc).1
      show (w.heap.push b)[c]? = _
      rw [Array.getElem?_push, if_neg (by omega)]
    · rw [hget_hput] at hm
      by_cases e : m = n
      · subst e
        rw [PMap.set_eq] at hq'; injection hq' with hq'
        exact .inr (by rw [← hq', hpb]; exact Nat.le_refl _)
      · rw [if_neg e] at hm
        rw [PMap.set_ne e] at hq'
        exact .inl ⟨m, x, q', hm, hx, hq', rfl⟩
  have hfz : FzOk w0 (ρ.set n p) (hput h n o) { w with heap := w.heap.push b } := by
    refine H.fz.keep rfl (fun c x hc hx => ?_) (fun m x q' hm hx hq' => ?_)
    · have hlt := (Array.getElem?_eq_some_iff.1 hx).1
      show (w.heap.push b)[c]? = _
      rw [Array.getElem?_push, if_neg (by omega)]; exact hx
    · rw [hget_hput] at hm
      by_cases e : m = n
      · subst e
        rw [PMap.set_eq] at hq'; injection hq' with hq'
        exact .inr (by rw [← hq', hpb]; exact Nat.le_refl _)
      · rw [if_neg e] at hm
        rw [PMap.set_ne e] at hq'
        exact .inl ⟨m, x, q', hm, hx, hq', rfl⟩
  refine ⟨H.below.alloc b, fun m x hm => ?_, fun m k x y p' q' hm hk hx hy hp' hq' he => ?_, habs, hfz⟩
  · rw [hget_hput] at hm
    by_cases e : m = n
    · subst e; simp at hm; subst hm; exact hr
    · rw [if_neg e] at hm
      refine (H.objs m x hm).keep hle (fun p' hx hp' => ?_) (fun h0 _ => by rw [PMap.set_ne e]; exact h0)
      obtain ⟨q, bb, hq, hqb, hqw⟩ := (H.objs m x hm).place hx
      have : q = p' := by rw [hp'] at hq; exact (Option.some.inj hq).symm
      subst this
      have : q.block < w.heap.size := (Array.getElem?_eq_some_iff.1 hqw).1
      show (w.heap.push b)[q.block]? = _
      rw [Array.getElem?_push, if_neg (by omega)]
  · rw [hget_hput] at hm hk
    have old : ∀ m x p', m ≠ n → hget h m = some x → x.owner = true → (ρ.set n p) m = some p' → p'.block < w.heap.size ∧ ρ m = some p' := by
      intro m x p' e hm hx hp'
      rw [PMap.set_ne e] at hp'
      obtain ⟨q, bb, hq, hqb, hqw⟩ := (H.objs m x hm).place hx
      have : q = p' := by rw [hp'] at hq; exact (Option.some.inj hq).symm
      subst this
      exact ⟨(Array.getElem?_eq_some_iff.1 hqw).1, hp'⟩
    have new : ∀ p', (ρ.set n p) n = some p' → p'.block = w.heap.size := by
      intro p' hp'
      rw [PMap.set_eq] at hp'; injection hp' with hp'
      rw [← hp', hpb]
    by_cases e1 : m = n
    · by_cases e2 : k = n
      · rw [e1, e2]
      · rw [if_neg e2] at hk
        subst e1
        have := new _ hp'
        have := (old k y q' e2 hk hy hq').1
        omega
    · rw [if_neg e1] at hm
      by_cases e2 : k = n
      · subst e2
        have := new _ hq'
        have := (old m x p' e1 hm hx hp').1
        omega
      · rw [if_neg e2] at hk
        exact H.inj m k x y p' q' hm hk hx hy (old m x p' e1 hm hx hp').2 (old k y q' e2 hk hy hq').2 he

/-- An object is forgotten. -/
theorem HSat.forget {env : Env} {w0 : Anchor} {w : World} {ρ : PMap} {h : Heap} (H : HSat env w0 ρ h w) (n : Nat) : HSat env w0 ρ (hput h n .gone) w := by
  have sub : ∀ m x, hget (hput h n .gone) m = some x → x.owner = true → hget h m = some x := fun m x hm hx => by
    rw [hget_hput] at hm
    by_cases e : m = n
    · subst e; simp at hm; subst hm; cases hx
    · rw [if_neg e] at hm; exact hm
  have habs : ∃ μ, AbsAll env w0 ρ (hput h n .gone) w μ := by
    obtain ⟨μ, hA⟩ := H.abs
    exact ⟨μ, hA.keep (PMap.le_refl ρ) (fun m k st refs hm => sub m _ hm rfl) (fun _ _ _ _ _ _ _ _ _ => rfl) (Nat.le_refl _) (fun _ h => h) (fun m x q' hm hx hq' => .inl ⟨m, x, q', sub m x hm hx, hx, hq', rfl⟩)⟩
  refine ⟨H.below, fun m x hm => ?_, fun m k x y p' q' hm hk hx hy hp' hq' he => ?_, habs, H.fz.keep rfl (fun _ _ _ h => h) (fun m x q' hm hx hq' => .inl ⟨m, x, q', sub m x hm hx, hx, hq', rfl⟩)⟩
  · rw [hget_hput] at hm
    by_cases e : m = n
    · subst e; simp at hm; subst hm; trivial
    · rw [if_neg e] at hm; exact H.objs m x hm
  · rw [hget_hput] at hm hk
    by_cases e1 : m = n
    · subst e1; simp at hm; subst hm; cases hx
    · by_cases e2 : k = n
      · subst e2; simp at hk; subst hk; cases hy
      · rw [if_neg e1] at hm; rw [if_neg e2] at hk
        exact H.inj m k x y p' q' hm hk hx hy hp' hq' he

/-- A draw of the tape turns nothing. -/
theorem HSat.drawn {env : Env} {w0 : Anchor} {w w' : World} {ρ : PMap} {h : Heap} (H : HSat env w0 ρ h w) (hh : w'.heap = w.heap) (ho : w'.os = w.os) (ht : w'.tape = w.tape) (hout : w'.output = w.output) : HSat env w0 ρ h w' := by
  refine ⟨⟨ho.trans H.below.os, ht.trans H.below.tape, hout.trans H.below.output, by rw [hh]; exact H.below.size, fun k hk => by rw [hh]; exact H.below.block k hk⟩, fun m x hm => ?_, H.inj, ?_, H.fz.keep rfl (fun _ _ _ h => by rw [hh]; exact h) (fun m x q' hm hx hq' => .inl ⟨m, x, q', hm, hx, hq', rfl⟩)⟩
  rotate_left
  · obtain ⟨μ, hA⟩ := H.abs
    exact ⟨μ, hA.keep (PMap.le_refl ρ) (fun _ _ _ _ h => h) (fun _ _ _ _ _ _ _ _ _ => by rw [hh]) (by rw [hh]; exact Nat.le_refl _) (fun _ h => h) (fun m x q' hm hx hq' => .inl ⟨m, x, q', hm, hx, hq', rfl⟩)⟩
  exact (H.objs m x hm).keep (PMap.le_refl ρ) (fun _ _ _ => by rw [hh]) (fun h _ => h)

end Go.Sx
