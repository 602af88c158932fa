/-
  SX, PART 4: when a world and a frame are as the symbolic ones say; how that is kept when a block is written or made.
-/
import Derived.Test.YtagpchabkplggaaSxOps
namespace Go.Sx
open Go.RowKit
set_option linter.unusedVariables false
set_option linter.unusedSimpArgs false

/-! ## Runs without footprints -/
def Prog.Run {α : Type} (env : Env) : Prog α → Heap → α → Heap → Prop
  | .ret a, h, b, h' => a = b ∧ h = h'
  | .fail _, _, _, _ => False
  | .get n k, h, b, h' => ∃ o, hget h n = some o ∧ (k o).Run env h b h'
  | .put n o k, h, b, h' => k.Run env (hput h n o) b h'
  | .vc e k, h, b, h' => (e.den env).B = true ∧ k.Run env h b h'
  | .dec e k, h, b, h' => (k (e.den env).B).Run env h b h'

theorem Prog.Ev.run {α : Type} {env : Env} : ∀ {p : Prog α} {h : Heap} {a : α} {h' : Heap} {f f' : Foot}, p.Ev env h a h' f f' → p.Run env h a h'
  | .ret _, _, _, _, _, _, e => ⟨e.1, e.2.1⟩
  | .fail _, _, _, _, _, _, e => e
  | .get _ k, _, _, _, _, _, ⟨o, h1, h2⟩ => ⟨o, h1, Prog.Ev.run h2⟩
  | .put _ _ k, _, _, _, _, _, e => Prog.Ev.run (p := k) e
  | .vc _ k, _, _, _, _, _, e => ⟨e.1, Prog.Ev.run e.2⟩
  | .dec _ k, _, _, _, _, _, e => Prog.Ev.run (p := k _) e

section
variable {α β : Type} {env : Env} {h h' : Heap}
theorem run_bind {p : Prog α} {f : α → Prog β} {b : β} : (p >>= f).Run env h b h' ↔ ∃ a h1, p.Run env h a h1 ∧ (f a).Run env h1 b h' := by
  show (p.bind f).Run env h b h' ↔ _
  induction p generalizing h with
  | ret a =>
    simp only [Prog.bind, Prog.Run]
    exact ⟨fun h => ⟨a, _, ⟨rfl, rfl⟩, h⟩, fun ⟨_, _, ⟨h1, h2⟩, h⟩ => by subst h1; subst h2; exact h⟩
  | fail m => simp [Prog.bind, Prog.Run]
  | get n k ih =>
    simp only [Prog.bind, Prog.Run, ih]
    constructor
    · rintro ⟨o, h1, a, h2, h3, h4⟩; exact ⟨a, h2, ⟨o, h1, h3⟩, h4⟩
    · rintro ⟨a, h2, ⟨o, h1, h3⟩, h4⟩; exact ⟨o, h1, a, h2, h3, h4⟩
  | put n o k ih => simp only [Prog.bind, Prog.Run, ih]
  | vc e k ih =>
    simp only [Prog.bind, Prog.Run, ih]
    constructor
    · rintro ⟨h1, a, h2, h3, h4⟩; exact ⟨a, h2, ⟨h1, h3⟩, h4⟩
    · rintro ⟨a, h2, ⟨h1, h3⟩, h4⟩; exact ⟨h1, a, h2, h3, h4⟩
  | dec e k ih => simp only [Prog.bind, Prog.Run, ih]
theorem run_pure {a b : α} : (pure a : Prog α).Run env h b h' ↔ a = b ∧ h = h' := Iff.rfl
theorem run_ret {a b : α} : (Prog.ret a : Prog α).Run env h b h' ↔ a = b ∧ h = h' := Iff.rfl
theorem run_fail {m : String} {b : α} : (Prog.fail m : Prog α).Run env h b h' ↔ False := Iff.rfl
theorem run_ofOpt {o : Option α} {m : String} {b : α} : (ofOpt o m).Run env h b h' ↔ o = some b ∧ h = h' := by
  cases o <;> simp [ofOpt, Prog.Run]
theorem run_must {c : Bool} {m : String} {b : Unit} : (must c m).Run env h b h' ↔ c = true ∧ h = h' := by
  cases c <;> simp [must, Prog.Run]
theorem run_vcE {e : E} {b : Unit} : (vcE e).Run env h b h' ↔ (e.den env).B = true ∧ h = h' := by
  simp [vcE, Prog.Run]
theorem run_decE {e : E} {b : Bool} : (decE e).Run env h b h' ↔ (e.den env).B = b ∧ h = h' := Iff.rfl
theorem run_getN {n : Nat} {o : SObj} : (getN n).Run env h o h' ↔ hget h n = some o ∧ h = h' := by
  simp only [getN, Prog.Run]
  constructor
  · rintro ⟨x, h1, rfl, rfl⟩; exact ⟨h1, rfl⟩
  · rintro ⟨h1, rfl⟩; exact ⟨o, h1, rfl, rfl⟩
theorem run_putN {n : Nat} {o : SObj} {b : Unit} : (putN n o).Run env h b h' ↔ hput h n o = h' := by
  simp [putN, Prog.Run]
end

/-! ## Worlds -/
def _root_.Go.World.setBlk (w : World) (b : Nat) (o : Obj) : World := { w with heap := w.heap.setIfInBounds b o }

theorem setBlk_same {w : World} {b : Nat} {o o' : Obj} (h : w.heap[b]? = some o') : (w.setBlk b o).heap[b]? = some o := by
  have : b < w.heap.size := (Array.getElem?_eq_some_iff.1 h).1
  simp [World.setBlk, Array.getElem?_setIfInBounds, this]
theorem setBlk_other {w : World} {b c : Nat} {o : Obj} (h : c ≠ b) : (w.setBlk b o).heap[c]? = w.heap[c]? := by
  simp [World.setBlk, Array.getElem?_setIfInBounds, Ne.symm h]
/-- A world that a run is measured against, and its blocks that stay. -/
structure Anchor where
  w : World
  K : Nat → Prop
  lt : ∀ k, K k → k < w.heap.size
structure Kept (A : Anchor) (w : World) : Prop where
  os : w.os = A.w.os
  tape : w.tape = A.w.tape
  output : w.output = A.w.output
  size : A.w.heap.size ≤ w.heap.size
  block : ∀ k, A.K k → w.heap[k]? = A.w.heap[k]?
def anchor (w : World) : Anchor := ⟨w, fun k => k < w.heap.size, fun _ h => h⟩
theorem Kept.refl (A : Anchor) : Kept A A.w := ⟨rfl, rfl, rfl, Nat.le_refl _, fun _ _ => rfl⟩
theorem Kept.setBlk {A : Anchor} {w : World} (h : Kept A w) {b : Nat} (hb : ¬ A.K b) (o : Obj) : Kept A (w.setBlk b o) :=
  ⟨h.os, h.tape, h.output, by simpa [World.setBlk] using h.size, fun k hk => by
    rw [setBlk_other (fun (e : k = b) => hb (by rw [← e]; exact hk))]
    exact h.block k hk⟩
theorem Kept.fresh {A : Anchor} {w : World} (h : Kept A w) : ¬ A.K w.heap.size := fun hk => by
  have := A.lt _ hk
  have := h.size
  omega
theorem Kept.alloc {A : Anchor} {w : World} (h : Kept A w) (o : Obj) : Kept A { w with heap := w.heap.push o } :=
  ⟨h.os, h.tape, h.output, by have := h.size; simp; omega, fun k hk => by
    have h1 := A.lt k hk
    have h2 := h.size
    show (w.heap.push o)[k]? = _
    rw [Array.getElem?_push, if_neg (by omega)]
    exact h.block k hk⟩
theorem Kept.cell {A : Anchor} {w : World} (h : Kept A w) {p : Addr} (hp : A.K p.block) : w.cell? p = A.w.cell? p := World.cell?_of_block (w := A.w) (h.block p.block hp)
theorem Kept.below {W w : World} (h : Kept (anchor W) w) : Below W.heap.size W w := ⟨h.os, h.tape, h.output, h.size, h.block⟩

theorem cell_of {w : World} {b : Nat} {c : Array Value} {T : TypeId} {fz : Nat × Nat} (h : w.heap[b]? = some (.cells c T fz)) (o : Nat) : w.cell? ⟨b, o, none⟩ = c[o]? := by
  simp [World.cell?, h]

/-! ## Objects in memory -/
def RowRel (env : Env) (ρ : PMap) (sz : Nat) (len : E) (cols : List Col) (tail : List (List SV)) (vs : List Value) : Prop :=
  ∃ base tl, vs = base ++ tl ∧ base.length = (len.den env).I.toNat * sz ∧
    (∀ (i : Nat), i < (len.den env).I.toNat → ∀ (j : Nat) (col : Col), cols[j]? = some col → ∃ v, base[i * sz + j]? = some v ∧ (col.at (.il i)).Rel env ρ v) ∧
    SV.Rels env ρ tail.flatten tl ∧ (∀ t ∈ tail, t.length = sz) ∧ cols.length ≤ sz

def SObj.Rel (env : Env) (w0 : Anchor) (ρ : PMap) (n : Nat) : SObj → World → Prop
  | .cells T cs, w => ∃ p vs, ρ n = some p ∧ ¬ w0.K p.block ∧ p.base = 0 ∧ p.nil = false ∧ SV.Rels env ρ cs vs ∧ w.heap[p.block]? = some (.cells vs.toArray T (0, 0))
  | .row T sz len cols tail, w => ∃ p vs rest, ρ n = some p ∧ ¬ w0.K p.block ∧ p.base = 0 ∧ p.nil = false ∧
      RowRel env ρ sz len cols tail vs ∧ (vs ++ rest).length = p.cap * sz ∧ w.heap[p.block]? = some (.cells (vs ++ rest).toArray T (0, 0))
  | .inp sz len cols, w => ∃ p, ρ n = some p ∧ (len.den env).I.toNat ≤ p.cap ∧ (p.nil = true → p.cap = 0) ∧ (0 < p.cap → w0.K p.block) ∧
      ∀ (i : Nat), i < (len.den env).I.toNat → ∀ (j : Nat) (col : Col), cols[j]? = some col → ∃ v, w0.w.cell? ⟨p.block, p.base + i * sz + j, none⟩ = some v ∧ (col.at (.il i)).Rel env ρ v
  | .map m known, w => False
  | .resv, _ => ρ n = none
  | .gone, _ => True

def SObj.owner : SObj → Bool
  | .cells .. => true
  | .row .. => true
  | .map .. => true
  | _ => false

theorem RowRel.mono {env : Env} {ρ ρ' : PMap} (hl : ρ.le ρ') {sz : Nat} {len : E} {cols : List Col} {tail : List (List SV)} {vs : List Value}
    (h : RowRel env ρ sz len cols tail vs) : RowRel env ρ' sz len cols tail vs := by
  obtain ⟨b, t, h1, h2, h3, h4, h5, h6⟩ := h
  refine ⟨b, t, h1, h2, fun i hi j col hj => ?_, h4.mono hl, h5, h6⟩
  obtain ⟨v, hv, hr⟩ := h3 i hi j col hj
  exact ⟨v, hv, hr.mono hl⟩

/-- An object's reading hangs on its own block alone. -/
theorem SObj.Rel.keep {env : Env} {w0 : Anchor} {w w' : World} {ρ ρ' : PMap} (hl : ρ.le ρ') {n : Nat} {o : SObj} (h : o.Rel env w0 ρ n w)
    (hb : ∀ p, o.owner = true → ρ n = some p → w'.heap[p.block]? = w.heap[p.block]?) (hr : ρ n = none → o = .resv → ρ' n = none) : o.Rel env w0 ρ' n w' := by
  cases o with
  | cells T cs =>
    obtain ⟨p, vs, h1, h2, h3, h4, h5, h6⟩ := h
    exact ⟨p, vs, hl _ _ h1, h2, h3, h4, h5.mono hl, by rw [hb p rfl h1]; exact h6⟩
  | row T sz len cols tail =>
    obtain ⟨p, vs, rest, h1, h2, h3, h4, h5, h6, h7⟩ := h
    exact ⟨p, vs, rest, hl _ _ h1, h2, h3, h4, h5.mono hl, h6, by rw [hb p rfl h1]; exact h7⟩
  | inp sz len cols =>
    obtain ⟨p, h1, h2, h3, h4, h5⟩ := h
    refine ⟨p, hl _ _ h1, h2, h3, h4, fun i hi j col hj => ?_⟩
    obtain ⟨v, hv, hr⟩ := h5 i hi j col hj
    exact ⟨v, hv, hr.mono hl⟩
  | map m k => exact h
  | resv => exact hr h rfl
  | gone => trivial

structure HSat (env : Env) (w0 : Anchor) (ρ : PMap) (h : Heap) (w : World) : Prop where
  below : Kept w0 w
  objs : ∀ n o, hget h n = some o → o.Rel env w0 ρ n w
  inj : ∀ m n o o' p q, hget h m = some o → hget h n = some o' → o.owner = true → o'.owner = true → ρ m = some p → ρ n = some q → p.block = q.block → m = n

theorem SObj.Rel.place {env : Env} {w0 : Anchor} {w : World} {ρ : PMap} {n : Nat} {o : SObj} (h : o.Rel env w0 ρ n w) (ho : o.owner = true) :
    ∃ p b, ρ n = some p ∧ ¬ w0.K p.block ∧ w.heap[p.block]? = some b := by
  cases o with
  | cells T cs => obtain ⟨p, vs, h1, h2, h3, h4, h5, h6⟩ := h; exact ⟨p, _, h1, h2, h6⟩
  | row T sz len cols tail => obtain ⟨p, vs, rest, h1, h2, h3, h4, h5, h6, h7⟩ := h; exact ⟨p, _, h1, h2, h7⟩
  | map m k => exact h.elim
  | inp => cases ho
  | resv => cases ho
  | gone => cases ho

/-- The block of one object is written. -/
theorem HSat.update {env : Env} {w0 : Anchor} {w : World} {ρ : PMap} {h : Heap} (H : HSat env w0 ρ h w) {n : Nat} {o o' : SObj} {p : Pl} {b : Obj}
    (hn : hget h n = some o) (ho : o.owner = true) (hp : ρ n = some p) (ho' : o'.owner = true) (hr : o'.Rel env w0 ρ n (w.setBlk p.block b)) :
    HSat env w0 ρ (hput h n o') (w.setBlk p.block b) := by
  obtain ⟨q, bb, hq, hqb, hqw⟩ := (H.objs n o hn).place ho
  have : q = p := by rw [hp] at hq; exact (Option.some.inj hq).symm
  subst this
  refine ⟨H.below.setBlk hqb b, fun m x hm => ?_, fun m k x y p' q' hm hk hx hy hp' hq' he => ?_⟩
  · rw [hget_hput] at hm
    by_cases e : m = n
    · subst e; simp at hm; subst hm; exact hr
    · rw [if_neg e] at hm
      refine (H.objs m x hm).keep (PMap.le_refl ρ) (fun p' hx hp' => setBlk_other fun he => e ?_) (fun h _ => h)
      exact H.inj m n x o p' q hm hn hx ho hp' hp he
  · rw [hget_hput] at hm hk
    by_cases e1 : m = n
    · by_cases e2 : k = n
      · rw [e1, e2]
      · rw [if_neg e2] at hk
        subst e1
        exact H.inj m k o y p' q' hn hk ho hy hp' hq' he
    · rw [if_neg e1] at hm
      by_cases e2 : k = n
      · subst e2
        exact H.inj m k x o p' q' hm hn hx ho hp' hq' he
      · rw [if_neg e2] at hk
        exact H.inj m k x y p' q' hm hk hx hy hp' hq' he

def PMap.set (ρ : PMap) (n : Nat) (p : Pl) : PMap := fun m => if m = n then some p else ρ m
theorem PMap.le_set {ρ : PMap} {n : Nat} (h : ρ n = none) (p : Pl) : ρ.le (ρ.set n p) := fun m q hm => by
  unfold PMap.set
  by_cases e : m = n
  · subst e; rw [h] at hm; cases hm
  · rw [if_neg e]; exact hm

/-- A block is made, for a name that was kept free. -/
theorem HSat.alloc {env : Env} {w0 : Anchor} {w : World} {ρ : PMap} {h : Heap} (H : HSat env w0 ρ h w) {n : Nat} {o : SObj} {b : Obj} {p : Pl}
    (hn : hget h n = some .resv) (hpb : p.block = w.heap.size) (ho : o.owner = true)
    (hr : o.Rel env w0 (ρ.set n p) n { w with heap := w.heap.push b }) :
    HSat env w0 (ρ.set n p) (hput h n o) { w with heap := w.heap.push b } := by
  have hnone : ρ n = none := H.objs n .resv hn
  have hle := PMap.le_set hnone p
  have hsz := H.below.size
  refine ⟨H.below.alloc b, fun m x hm => ?_, fun m k x y p' q' hm hk hx hy hp' hq' he => ?_⟩
  · rw [hget_hput] at hm
    by_cases e : m = n
    · subst e; simp at hm; subst hm; exact hr
    · rw [if_neg e] at hm
      refine (H.objs m x hm).keep hle (fun p' hx hp' => ?_) (fun h0 _ => by unfold PMap.set; rw [if_neg e]; exact h0)
      obtain ⟨q, bb, hq, hqb, hqw⟩ := (H.objs m x hm).place hx
      have : q = p' := by rw [hp'] at hq; exact (Option.some.inj hq).symm
      subst this
      have : q.block < w.heap.size := (Array.getElem?_eq_some_iff.1 hqw).1
      show (w.heap.push b)[q.block]? = _
      rw [Array.getElem?_push, if_neg (by omega)]
  · rw [hget_hput] at hm hk
    have old : ∀ m x p', m ≠ n → hget h m = some x → x.owner = true → (ρ.set n p) m = some p' → p'.block < w.heap.size ∧ ρ m = some p' := by
      intro m x p' e hm hx hp'
      unfold PMap.set at hp'
      rw [if_neg e] at hp'
      obtain ⟨q, bb, hq, hqb, hqw⟩ := (H.objs m x hm).place hx
      have : q = p' := by rw [hp'] at hq; exact (Option.some.inj hq).symm
      subst this
      exact ⟨(Array.getElem?_eq_some_iff.1 hqw).1, hp'⟩
    have new : ∀ p', (ρ.set n p) n = some p' → p'.block = w.heap.size := by
      intro p' hp'
      unfold PMap.set at hp'
      simp at hp'
      rw [← hp', hpb]
    by_cases e1 : m = n
    · by_cases e2 : k = n
      · rw [e1, e2]
      · rw [if_neg e2] at hk
        subst e1
        have := new _ hp'
        have := (old k y q' e2 hk hy hq').1
        omega
    · rw [if_neg e1] at hm
      by_cases e2 : k = n
      · subst e2
        have := new _ hq'
        have := (old m x p' e1 hm hx hp').1
        omega
      · rw [if_neg e2] at hk
        exact H.inj m k x y p' q' hm hk hx hy (old m x p' e1 hm hx hp').2 (old k y q' e2 hk hy hq').2 he

/-- An object is forgotten. -/
theorem HSat.forget {env : Env} {w0 : Anchor} {w : World} {ρ : PMap} {h : Heap} (H : HSat env w0 ρ h w) (n : Nat) : HSat env w0 ρ (hput h n .gone) w := by
  refine ⟨H.below, fun m x hm => ?_, fun m k x y p' q' hm hk hx hy hp' hq' he => ?_⟩
  · rw [hget_hput] at hm
    by_cases e : m = n
    · subst e; simp at hm; subst hm; trivial
    · rw [if_neg e] at hm; exact H.objs m x hm
  · rw [hget_hput] at hm hk
    by_cases e1 : m = n
    · subst e1; simp at hm; subst hm; cases hx
    · by_cases e2 : k = n
      · subst e2; simp at hk; subst hk; cases hy
      · rw [if_neg e1] at hm; rw [if_neg e2] at hk
        exact H.inj m k x y p' q' hm hk hx hy hp' hq' he

/-- A draw of the tape turns nothing. -/
theorem HSat.drawn {env : Env} {w0 : Anchor} {w w' : World} {ρ : PMap} {h : Heap} (H : HSat env w0 ρ h w) (hh : w'.heap = w.heap) (ho : w'.os = w.os) (ht : w'.tape = w.tape) (hout : w'.output = w.output) : HSat env w0 ρ h w' := by
  refine ⟨⟨ho.trans H.below.os, ht.trans H.below.tape, hout.trans H.below.output, by rw [hh]; exact H.below.size, fun k hk => by rw [hh]; exact H.below.block k hk⟩, fun m x hm => ?_, H.inj⟩
  exact (H.objs m x hm).keep (PMap.le_refl ρ) (fun _ _ _ => by rw [hh]) (fun h _ => h)

end Go.Sx
