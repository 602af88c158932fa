/-
  SX, PART 5c: what makes new blocks and new values.
-/
import Derived.Test.YtdlppkhmmclipaaGreatSxMMem
namespace Go.Sx
open Go.RowKit
set_option linter.unusedVariables false
set_option linter.unusedSimpArgs false
def Prog.bx {α : Type} (env : Env) : Prog α -> aL -> α -> aL -> Prop
 | .ret a, h, b, h' => a = b /\ h = h'
 | .fail _, _, _, _ => False
 | .get n k, h, b, h' => ∃ o, ay h n = some o /\ (k o).bx env h b h'
 | .put n o k, h, b, h' => k.bx env (bf h n o) b h'
 | .vc e k, h, b, h' => e.den env /\ k.bx env h b h'
 | .dec e k, h, b, h' => (k (e.den env).B).bx env h b h'
theorem Prog.Ev.run {α : Type} {env : Env} : ∀ {p : Prog α} {h : aL} {a : α} {h' : aL} {f f' : aG}, p.Ev env h a h' f f' -> p.bx env h a h'
 | .ret _, _, _, _, _, _, e => ⟨e.1, e.2.1⟩
 | .fail _, _, _, _, _, _, e => e
 | .get _ k, _, _, _, _, _, ⟨o, h1, h2⟩ => ⟨o, h1, Prog.Ev.run h2⟩
 | .put _ _ k, _, _, _, _, _, e => Prog.Ev.run (p := k) e
 | .vc _ k, _, _, _, _, _, e => ⟨e.1, Prog.Ev.run e.2⟩
 | .dec _ k, _, _, _, _, _, e => Prog.Ev.run (p := k _) e
section
variable {α β : Type} {env : Env} {h h' : aL}
theorem run_bind {p : Prog α} {f : α -> Prog β} {b : β} : (p >>= f).bx env h b h' ↔ ∃ a h1, p.bx env h a h1 /\ (f a).bx env h1 b h' := by
 show (p.bind f).bx env h b h' ↔ _
 induction p generalizing h with
 | ret a =>
   simp only [Prog.bind, Prog.bx]; exact ⟨fun h => ⟨a, _, ⟨rfl, rfl⟩, h⟩, fun ⟨_, _, ⟨h1, h2⟩, h⟩ => by subst h1; subst h2; exact h⟩
 | fail m => simp [Prog.bind, Prog.bx]
 | get n k ih =>
   simp only [Prog.bind, Prog.bx, ih]; constructor
   ·rintro ⟨o, h1, a, h2, h3, h4⟩; exact ⟨a, h2, ⟨o, h1, h3⟩, h4⟩
   ·rintro ⟨a, h2, ⟨o, h1, h3⟩, h4⟩; exact ⟨o, h1, a, h2, h3, h4⟩
 | put n o k ih => simp only [Prog.bind, Prog.bx, ih]
 | vc e k ih =>
   simp only [Prog.bind, Prog.bx, ih]; constructor
   ·rintro ⟨h1, a, h2, h3, h4⟩; exact ⟨a, h2, ⟨h1, h3⟩, h4⟩
   ·rintro ⟨a, h2, ⟨h1, h3⟩, h4⟩; exact ⟨h1, a, h2, h3, h4⟩
 | dec e k ih => simp only [Prog.bind, Prog.bx, ih]
theorem run_pure {a b : α} : (pure a : Prog α).bx env h b h' ↔ a = b /\ h = h' := Iff.rfl
theorem aT {a b : α} : (Prog.ret a : Prog α).bx env h b h' ↔ a = b /\ h = h' := Iff.rfl
theorem ae {o : Option α} {m : String} {b : α} : (aY o m).bx env h b h' ↔ o = some b /\ h = h' := by
 cases o <;> simp [aY, Prog.bx]
theorem aq {c : Bool} {m : String} {b : Unit} : (aS c m).bx env h b h' ↔ c = true /\ h = h' := by
 cases c <;> simp [aS, Prog.bx]
theorem bU {e : E} {b : Unit} : (jX e).bx env h b h' ↔ (e.den env).B = true /\ h = h' := by
 simp [jX, Prog.bx, Ob.den]
theorem Rf {o : Ob} {b : Unit} : (vcO o).bx env h b h' ↔ o.den env /\ h = h' := by
 simp [vcO, Prog.bx]
theorem gX {e : E} {b : Bool} : (BJ e).bx env h b h' ↔ (e.den env).B = b /\ h = h' := Iff.rfl
theorem aU {n : Nat} {o : aA} : (fe n).bx env h o h' ↔ ay h n = some o /\ h = h' := by
 simp only [fe, Prog.bx]; constructor
 ·rintro ⟨x, h1, rfl, rfl⟩; exact ⟨h1, rfl⟩
 ·rintro ⟨h1, rfl⟩; exact ⟨o, h1, rfl, rfl⟩
theorem bD {n : Nat} {o : aA} {b : Unit} : (iG n o).bx env h b h' ↔ bf h n o = h' := by
 simp [iG, Prog.bx]
end
def _root_.Go.World.bd (w : World) (b : Nat) (o : Obj) : World := { w with heap := w.heap.setIfInBounds b o }
theorem bq {w : World} {b : Nat} {o o' : Obj} (h : w.heap[b]? = some o') : (w.bd b o).heap[b]? = some o := by
 have : b < w.heap.size := (Array.getElem?_eq_some_iff.1 h).1; simp [World.bd, Array.getElem?_setIfInBounds, this]
theorem dV {w : World} {b c : Nat} {o : Obj} (h : c ≠ b) : (w.bd b o).heap[c]? = w.heap[c]? := by
 simp [World.bd, Array.getElem?_setIfInBounds, Ne.symm h]
structure Anchor where
 w : World
 K : Nat -> Prop
 F : Nat -> Prop
 ar : Nat -> Nat -> Option Nat
 lt : ∀ k, K k -> k < w.heap.size
structure Kept (A : Anchor) (w : World) : Prop where
 os : w.os = A.w.os
 tape : w.tape = A.w.tape
 output : w.output = A.w.output
 size : A.w.heap.size <= w.heap.size
 block : ∀ k, A.K k -> w.heap[k]? = A.w.heap[k]?
def anchor (w : World) : Anchor := ⟨w, fun k => k < w.heap.size, fun _ => True, fun _ _ => none, fun _ h => h⟩
theorem Kept.refl (A : Anchor) : Kept A A.w := ⟨rfl, rfl, rfl, Nat.le_refl _, fun _ _ => rfl⟩
theorem Kept.bd {A : Anchor} {w : World} (h : Kept A w) {b : Nat} (hb : ¬ A.K b) (o : Obj) : Kept A (w.bd b o) :=
 ⟨h.os, h.tape, h.output, by simpa [World.bd] using h.size, fun k hk => by
  rw [dV (fun (e : k = b) => hb (by rw [<- e]; exact hk))]
  exact h.block k hk⟩
theorem Kept.fresh {A : Anchor} {w : World} (h : Kept A w) : ¬ A.K w.heap.size := fun hk => by
 have := A.lt _ hk; have := h.size; omega
theorem Kept.alloc {A : Anchor} {w : World} (h : Kept A w) (o : Obj) : Kept A { w with heap := w.heap.push o } :=
 ⟨h.os, h.tape, h.output, by have := h.size; simp; omega, fun k hk => by
  have h1 := A.lt k hk; have h2 := h.size; show (w.heap.push o)[k]? = _; rw [Array.getElem?_push, if_neg (by omega)]
  exact h.block k hk⟩
theorem Kept.cell {A : Anchor} {w : World} (h : Kept A w) {p : Addr} (hp : A.K p.block) : w.cell? p = A.w.cell? p := World.cell?_of_block (w := A.w) (h.block p.block hp)
theorem Kept.below {W w : World} (h : Kept (anchor W) w) : Below W.heap.size W w := ⟨h.os, h.tape, h.output, h.size, h.block⟩
theorem cell_of {w : World} {b : Nat} {c : Array Value} {T : TypeId} {fz : Nat × Nat} (h : w.heap[b]? = some (.cells c T fz)) (o : Nat) : w.cell? ⟨b, o, none⟩ = c[o]? := by
 simp [World.cell?, h]
def eH (env : Env) (ρ : af) (sz : Nat) (len : E) (cols : List ch) (tail : List (List SV)) (vs : List Value) : Prop :=
 ∃ base tl, vs = base ++ tl /\ base.length = (len.den env).I.toNat * sz /\
  (∀ (i : Nat), i < (len.den env).I.toNat -> ∀ (j : Nat) (bY : ch), cols[j]? = some bY -> ∃ v, base[i * sz + j]? = some v /\ (bY.at (.il i)).Rel env ρ v) /\
  SV.aD env ρ tail.flatten tl /\ (∀ t ∈ tail, t.length = sz) /\ cols.length <= sz
def gY : List MapEntry -> Value -> Option Value
 | [], _ => none
 | e :: es, k => cond (cf e.key k) (some e.val) (gY es k)
structure jM (kk : KK) (es : List MapEntry) (clk : Nat) : Prop where
 keys : ∀ e ∈ es, kk.ok e.key
 nodup : es.Pairwise fun a b => a.key ≠ b.key
 born : ∀ e ∈ es, e.born < clk
 apart : es.Pairwise fun a b => a.born ≠ b.born
def KV.Rel (env : Env) (ρ : af) : KV -> Option Value -> Prop
 | .no, o => o = none
 | .yes x, o => ∃ v, o = some v /\ x.Rel env ρ v
 | .may b x, o => cond (b.den env).B (∃ v, o = some v /\ x.Rel env ρ v) (o = none)
theorem KV.Rel.mono {env : Env} {ρ ρ' : af} (h : ρ.le ρ') : ∀ {x : KV} {o : Option Value}, x.Rel env ρ o -> x.Rel env ρ' o
 | .no, _, r => r
 | .yes x, _, ⟨v, e, r⟩ => ⟨v, e, r.mono h⟩
 | .may b x, o, r => by
   simp only [KV.Rel] at r ⊢; cases hb : (b.den env).B with
   | true => rw [hb] at r; obtain ⟨v, e, r⟩ := r; exact ⟨v, e, r.mono h⟩
   | false => rw [hb] at r; exact r
def bM (env : Env) (ρ : af) (kk : KK) : List (SV × KV) -> List (Value × Option Value) -> Prop
 | [], kv => kv = []
 | (k, x) :: l, kv => ∃ a b r, kv = (a, b) :: r /\ kk.ok a /\ k.Rel env ρ a /\ x.Rel env ρ b /\ bM env ρ kk l r
theorem bM.mono {env : Env} {ρ ρ' : af} (h : ρ.le ρ') {kk : KK} : ∀ {l : List (SV × KV)} {kv : List (Value × Option Value)}, bM env ρ kk l kv -> bM env ρ' kk l kv
 | [], _, r => r
 | (k, x) :: l, kv, ⟨a, b, r, e, h1, h2, h3, h4⟩ => by
   exact ⟨a, b, r, e, h1, h2.mono h, h3.mono h, bM.mono h h4⟩
def CU (ag : Bool) (ks : aJ) (fz : Fz) (v : Value) (cells : List Dv) : Prop :=
 ∃ vs : List Value, vs.length = ks.len /\ ks.Rel fz (fun j => cells[j]?.getD (.i 0)) (fun j => vs[j]?) 0 /\ (if ag = true then v = .agg vs.toArray else vs = [v])
def DQ (kk : KK) (ag : Bool) (ks : aJ) (fz : Fz) (e : MapEntry) (r : List Dv) : Prop := e.key = kk.dv (r.headD (.i 0)) /\ CU ag ks fz e.val r.tail
inductive cZ (kk : KK) (ag : Bool) (ks : aJ) (fz : Fz) : List MapEntry -> List (List Dv) -> Prop where
 | nil : cZ kk ag ks fz [] []
 | cons {e : MapEntry} {r : List Dv} {es : List MapEntry} {l : List (List Dv)} : DQ kk ag ks fz e r -> cZ kk ag ks fz es l -> cZ kk ag ks fz (e :: es) (r :: l)
theorem CU.mono {ag : Bool} {ks : aJ} {fz fz' : Fz} (h : Fz.le fz fz') {v : Value} {cells : List Dv} (r : CU ag ks fz v cells) : CU ag ks fz' v cells := by
 obtain ⟨vs, h1, h2, h3⟩ := r; exact ⟨vs, h1, aJ.Rel.mono h (fun _ _ h => h) h2, h3⟩
theorem cZ.mono {kk : KK} {ag : Bool} {ks : aJ} {fz fz' : Fz} (h : Fz.le fz fz') : ∀ {es : List MapEntry} {l : List (List Dv)}, cZ kk ag ks fz es l -> cZ kk ag ks fz' es l
 | _, _, .nil => .nil
 | _, _, .cons ⟨a, b⟩ r => .cons ⟨a, b.mono h⟩ (cZ.mono h r)
structure Rg (s : Nat) (kb : List (Value × Nat)) (es : List MapEntry) : Prop where
 sub : (es.map fun x => (x.key, x.born)).Sublist kb
 lt : ∀ x ∈ kb, x.2 < s
 born : kb.Pairwise fun a b => a.2 ≠ b.2
 keys : kb.Pairwise fun a b => a.1 ≠ b.1
def ko (ρ : af) (it : Option Nat) (es : List MapEntry) (clk : Nat) : Prop := ∀ n, it = some n -> ∃ q s kb, ρ n = some q /\ q.gh = some (s, kb) /\ clk = s /\ Rg s kb es
theorem ko.mono {ρ ρ' : af} (h : ρ.le ρ') {it : Option Nat} {es : List MapEntry} {clk : Nat} (r : ko ρ it es clk) : ko ρ' it es clk := fun n hn => by
 obtain ⟨q, s, kb, h1, h2⟩ := r n hn; exact ⟨q, s, kb, h _ _ h1, h2⟩
theorem ko.no {ρ : af} {es : List MapEntry} {clk : Nat} : ko ρ none es clk := fun n hn => by cases hn
theorem ko.less {ρ : af} {it : Option Nat} {es es' : List MapEntry} {clk : Nat} (h : es'.Sublist es) (r : ko ρ it es clk) : ko ρ it es' clk := fun n hn => by
 obtain ⟨q, s, kb, h1, h2, h3, h4⟩ := r n hn; exact ⟨q, s, kb, h1, h2, h3, (h.map _).trans h4.sub, h4.lt, h4.born, h4.keys⟩
inductive b7 (kk : KK) (kb : List (Value × Nat)) : List (List Dv) -> List Nat -> Prop where
 | nil : b7 kk kb [] []
 | cons {r : List Dv} {b : Nat} {l : List (List Dv)} {s : List Nat} : (kk.dv (r.headD (.i 0)), b) ∈ kb -> b7 kk kb l s -> b7 kk kb (r :: l) (b :: s)
theorem b7.snoc {kk : KK} {kb : List (Value × Nat)} {r : List Dv} {b : Nat} (h : (kk.dv (r.headD (.i 0)), b) ∈ kb) : ∀ {l : List (List Dv)} {s : List Nat}, b7 kk kb l s -> b7 kk kb (l ++ [r]) (s ++ [b])
 | _, _, .nil => .cons h .nil
 | _, _, .cons a t => .cons a (b7.snoc h t)
def Ks (σ : Nat -> Nat) (it it' : Option Nat) : Prop := ∀ m, it' = some m -> it = some (σ m)
def itC (σ : Nat -> Nat) (it it' : Option Nat) : Bool :=
 match it' with
 | none => true
 | some m => match it with | some n => Nat.beq n (σ m) | none => false
theorem WZ {σ : Nat -> Nat} {it it' : Option Nat} (h : itC σ it it' = true) : Ks σ it it' := fun m hm => by
 subst hm; cases it with
 | none => cases h
 | some n => rw [Nat.eq_of_beq_eq_true h]
theorem ko.aV {ρ : af} {σ : Nat -> Nat} {it it' : Option Nat} {es : List MapEntry} {clk : Nat} (h : Ks σ it it') (r : ko ρ it es clk) : ko (ρ.re σ) it' es clk := fun n hn => r (σ n) (h n hn)
def Dg : List ch -> Bool
 | .tc .. :: _ => true
 | _ => false
def vX (ks : aJ) (fz : Fz) (d : Dv) (p : Pl) (l : List (List Dv)) (cs : Array Value) : Prop :=
 l.Perm d.T /\ cs.size = p.cap * ks.len /\ l.length <= p.cap /\ ∀ i, i < l.length -> ks.Rel fz (fun j => (Dv.t l).at i j) (fun j => cs[i * ks.len + j]?) 0
theorem vX.mono {ks : aJ} {fz fz' : Fz} (h : Fz.le fz fz') {d : Dv} {p : Pl} {l : List (List Dv)} {cs : Array Value} (r : vX ks fz d p l cs) : vX ks fz' d p l cs :=
 ⟨r.1, r.2.1, r.2.2.1, fun i hi => aJ.Rel.mono h (fun _ _ h => h) (r.2.2.2 i hi)⟩
def aA.Rel (env : Env) (w0 : Anchor) (ρ : af) (n : Nat) : aA -> World -> Prop
 | .cells T cs, w => ∃ p vs, ρ n = some p /\ ¬ w0.K p.block /\ p.base = 0 /\ p.nil = false /\ SV.aD env ρ cs vs /\ w.heap[p.block]? = some (.cells vs.toArray T (0, 0))
 | .row T sz len cols tail, w => ∃ p vs rest, ρ n = some p /\ ¬ w0.K p.block /\ p.base = 0 /\ p.nil = false /\
     eH env ρ sz len cols tail vs /\ (vs ++ rest).length = p.cap * sz /\ w.heap[p.block]? = some (.cells (vs ++ rest).toArray T (0, 0))
 | .qW sz len cols, w => ∃ p, ρ n = some p /\ (len.den env).I.toNat <= p.cap /\ (p.nil = true -> p.cap = 0) /\
     ((Dg cols = false /\ (0 < p.cap -> w0.K p.block) /\
       ∀ (i : Nat), i < (len.den env).I.toNat -> ∀ (j : Nat) (bY : ch), cols[j]? = some bY -> ∃ v, w0.w.cell? ⟨p.block, p.base + i * sz + j, none⟩ = some v /\ (bY.at (.il i)).Rel env ρ v) \/
     (Dg cols = true /\ p.base = 0 /\ p.nil = false /\
      ∀ (i : Nat), i < (len.den env).I.toNat -> ∀ (j : Nat) (bY : ch), cols[j]? = some bY -> ∃ v, cu ρ.fz p.block (i * sz + j) = some v /\ (bY.at (.il i)).Rel env ρ v))
 | .map m ix kk sz known, w => ∃ p es clk kv, ρ n = some p /\ ¬ w0.K p.block /\ p.base = 0 /\ p.nil = false /\ w.heap[p.block]? = some (.map es clk) /\ jM kk es.toList clk /\ (es.size : Int) = (sz.den env).I /\
     bM env ρ kk known kv /\ ∀ k, kk.ok k -> gY es.toList k = cont kv (res env m (ix.den env).I) k
 | .ar T ks e, w => n = dI T
 | .fwd T i, w => ∃ p, ρ n = some p /\ p.base = 0 /\ p.nil = false /\ 0 <= (i.den env).I /\ ρ.fz.ar T (i.den env).I.toNat = some p.block
 | .OB ks e, w => ∃ p, ρ n = some p /\ p.base = 0 /\ p.nil = false /\ ks.Rel ρ.fz (fun j => (e.den env).at 0 j) (fun j => cu ρ.fz p.block j) 0
 | .k7 kk ag ks e it, w => ∃ p es clk, ρ n = some p /\ ¬ w0.K p.block /\ p.base = 0 /\ p.nil = false /\ w.heap[p.block]? = some (.map es clk) /\ jM kk es.toList clk /\ (∃ l, l.Perm (e.den env).T /\ cZ kk ag ks ρ.fz es.toList l) /\ ko ρ it es.toList clk
 | .rA T ks e, w => ∃ p l cs, ρ n = some p /\ ¬ w0.K p.block /\ p.base = 0 /\ p.nil = false /\ w.heap[p.block]? = some (.cells cs T (0, 0)) /\ vX ks ρ.fz (e.den env) p l cs
 | .pf m kk V, w => ∃ p q s kb seen, ρ n = some p /\ ¬ w0.K p.block /\ p.base = 0 /\ p.nil = false /\ ρ m = some q /\ p.gh = some (s, kb) /\ w.heap[p.block]? = some (.mapIter (some q.block) s seen s) /\ b7 kk kb (V.den env).T seen.toList
 | .chan c, w => ∃ p room buf s r t, ρ n = some p /\ ¬ w0.K p.block /\ p.base = 0 /\ p.nil = false /\ w.heap[p.block]? = some (.chan room buf (c.den env).B s r t)
 | .dP, _ => ρ n = none
 | .gone, _ => True
def aA.owner : aA -> Bool
 | .cells .. => true
 | .row .. => true
 | .map .. => true
 | .k7 .. => true
 | .pf .. => true
 | .rA .. => true
 | .chan .. => true
 | _ => false
def aA.mR : aA -> Bool
 | .ar .. => true
 | _ => false
theorem eH.mono {env : Env} {ρ ρ' : af} (hl : ρ.le ρ') {sz : Nat} {len : E} {cols : List ch} {tail : List (List SV)} {vs : List Value}
    (h : eH env ρ sz len cols tail vs) : eH env ρ' sz len cols tail vs := by
 obtain ⟨b, t, h1, h2, h3, h4, h5, h6⟩ := h; refine ⟨b, t, h1, h2, fun i hi j bY hj => ?_, h4.mono hl, h5, h6⟩; obtain ⟨v, hv, hr⟩ := h3 i hi j bY hj; exact ⟨v, hv, hr.mono hl⟩
theorem aA.Rel.cU {env : Env} {w0 : Anchor} {w w' : World} {ρ ρ' : af} (hl : ρ.le ρ') {n : Nat} {o : aA} (h : o.Rel env w0 ρ n w)
    (hb : ∀ p, o.owner = true -> ρ n = some p -> w'.heap[p.block]? = w.heap[p.block]?) (hr : ρ n = none -> o = .dP -> ρ' n = none) : o.Rel env w0 ρ' n w' := by
 cases o with
 | cells T cs =>
   obtain ⟨p, vs, h1, h2, h3, h4, h5, h6⟩ := h; exact ⟨p, vs, hl _ _ h1, h2, h3, h4, h5.mono hl, by rw [hb p rfl h1]; exact h6⟩
 | row T sz len cols tail =>
   obtain ⟨p, vs, rest, h1, h2, h3, h4, h5, h6, h7⟩ := h; exact ⟨p, vs, rest, hl _ _ h1, h2, h3, h4, h5.mono hl, h6, by rw [hb p rfl h1]; exact h7⟩
 | qW sz len cols =>
   obtain ⟨p, h1, h2, h3, h4⟩ := h; refine ⟨p, hl _ _ h1, h2, h3, ?_⟩; rcases h4 with ⟨ht, h4, h5⟩ | ⟨ht, h4, h6, h5⟩
   ·refine .inl ⟨ht, h4, fun i hi j bY hj => ?_⟩; obtain ⟨v, hv, hr⟩ := h5 i hi j bY hj; exact ⟨v, hv, hr.mono hl⟩
   ·refine .inr ⟨ht, h4, h6, fun i hi j bY hj => ?_⟩; obtain ⟨v, hv, hr⟩ := h5 i hi j bY hj; exact ⟨v, iZ hl.fz hv, hr.mono hl⟩
 | map m ix kk sz k =>
   obtain ⟨p, es, clk, kv, h1, h2, h3, h4, h5, h6, h7, h8, h9⟩ := h; exact ⟨p, es, clk, kv, hl _ _ h1, h2, h3, h4, by rw [hb p rfl h1]; exact h5, h6, h7, h8.mono hl, h9⟩
 | ar T ks e => exact h
 | fwd T i =>
   obtain ⟨p, h1, h2, h3, h4, h5⟩ := h; exact ⟨p, hl _ _ h1, h2, h3, h4, hl.fz.ar _ _ _ h5⟩
 | OB ks e =>
   obtain ⟨p, h1, h2, h3, h4⟩ := h; exact ⟨p, hl _ _ h1, h2, h3, aJ.Rel.mono hl.fz (fun _ _ h => iZ hl.fz h) h4⟩
 | k7 kk ag ks e it =>
   obtain ⟨p, es, clk, h1, h2, h3, h4, h5, h6, h7, h8⟩ := h; obtain ⟨l, h7, h7'⟩ := h7; exact ⟨p, es, clk, hl _ _ h1, h2, h3, h4, by rw [hb p rfl h1]; exact h5, h6, ⟨l, h7, h7'.mono hl.fz⟩, h8.mono hl⟩
 | rA T ks e =>
   obtain ⟨p, l, cs, h1, h2, h3, h4, h5, h6⟩ := h; exact ⟨p, l, cs, hl _ _ h1, h2, h3, h4, by rw [hb p rfl h1]; exact h5, h6.mono hl.fz⟩
 | pf m kk V =>
   obtain ⟨p, q, s, kb, seen, h1, h2, h3, h4, h5, h6, h7, h8⟩ := h; exact ⟨p, q, s, kb, seen, hl _ _ h1, h2, h3, h4, hl _ _ h5, h6, by rw [hb p rfl h1]; exact h7, h8⟩
 | chan c =>
   obtain ⟨p, room, buf, s, r, t, h1, h2, h3, h4, h5⟩ := h; exact ⟨p, room, buf, s, r, t, hl _ _ h1, h2, h3, h4, by rw [hb p rfl h1]; exact h5⟩
 | dP => exact hr h rfl
 | gone => trivial
structure lA (env : Env) (w0 : Anchor) (ρ : af) (h : aL) (w : World) : Prop where
 cell : ∀ n T ks e, ay h n = some (.ar T ks e) -> (∀ i b, ρ.fz.ar T i = some b -> i < (e.den env).T.length) /\
  ∀ i, i < (e.den env).T.length -> ∃ b vs, ρ.fz.ar T i = some b /\ w.heap[b]? = some (.cells vs T (0, 0)) /\ vs.size = ks.len /\ ks.Rel ρ.fz (fun j => (e.den env).at i j) (fun j => vs[j]?) 0
 own : ∀ n T ks e i b, ay h n = some (.ar T ks e) -> ρ.fz.ar T i = some b -> b < w.heap.size /\ ¬ w0.K b
 apart : ∀ n T ks e i b m o q, ay h n = some (.ar T ks e) -> ρ.fz.ar T i = some b -> ay h m = some o -> o.owner = true -> ρ m = some q -> q.block ≠ b
 inj : ∀ n T ks e i n' T' ks' e' i' b, ay h n = some (.ar T ks e) -> ay h n' = some (.ar T' ks' e') -> ρ.fz.ar T i = some b -> ρ.fz.ar T' i' = some b -> T = T' /\ i = i'
 fz : ∀ n T ks e i b, ay h n = some (.ar T ks e) -> ρ.fz.ar T i = some b -> ρ.fz b = none
 stay : ∀ T, (∀ ks e, ay h (dI T) ≠ some (.ar T ks e)) -> ρ.fz.ar T = w0.ar T
structure Ct (w0 : Anchor) (ρ : af) (h : aL) (w : World) : Prop where
 at_ : ∀ b x, ρ.fz b = some x -> w.heap[b]? = some x
 free : ∀ b x n o p, ρ.fz b = some x -> ay h n = some o -> o.owner = true -> ρ n = some p -> p.block ≠ b
 iM : ∀ b x, ρ.fz b = some x -> w0.K b -> w0.F b
theorem Ct.cU {A : Anchor} {ρ ρ' : af} {h h' : aL} {w w' : World} (H : Ct A ρ h w) (h1 : ρ'.fz.ob = ρ.fz.ob) (h2 : ∀ b x, ρ.fz b = some x -> w.heap[b]? = some x -> w'.heap[b]? = some x)
    (h3 : ∀ m o q, ay h' m = some o -> o.owner = true -> ρ' m = some q -> (∃ m' o' q', ay h m' = some o' /\ o'.owner = true /\ ρ m' = some q' /\ q'.block = q.block) \/ w.heap.size <= q.block) : Ct A ρ' h' w' := by
 refine ⟨fun b x hb => h2 b x (by rw [<- h1]; exact hb) (H.at_ b x (by rw [<- h1]; exact hb)), fun b x n o p hb hn ho hp => ?_, fun b x hb => H.iM b x (by rw [<- h1]; exact hb)⟩
 rw [h1] at hb; rcases h3 n o p hn ho hp with ⟨m', o', q', g1, g2, g3, g4⟩ | cW
 ·rw [<- g4]; exact H.free b x m' o' q' hb g1 g2 g3
 ·have := (Array.getElem?_eq_some_iff.1 (H.at_ b x hb)).1; omega
structure az (env : Env) (w0 : Anchor) (ρ : af) (h : aL) (w : World) : Prop where
 below : Kept w0 w
 bk : ∀ n o, ay h n = some o -> o.Rel env w0 ρ n w
 inj : ∀ m n o o' p q, ay h m = some o -> ay h n = some o' -> o.owner = true -> o'.owner = true -> ρ m = some p -> ρ n = some q -> p.block = q.block -> m = n
 ar : lA env w0 ρ h w
 fz : Ct w0 ρ h w
theorem lA.none {env : Env} {w0 : Anchor} {ρ : af} {h : aL} {w : World} (hn : ∀ n o, ay h n = some o -> o.mR = false) (hs : ρ.fz.ar = w0.ar) : lA env w0 ρ h w := by
 have no : ∀ {n T ks e}, ay h n = some (.ar T ks e) -> False := fun hx => by have := hn _ _ hx; cases this
 exact ⟨fun n T ks e hx => (no hx).elim, fun n T ks e i b hx => (no hx).elim, fun n T ks e i b m o q hx => (no hx).elim, fun n T ks e i n' T' ks' e' i' b hx => (no hx).elim, fun n T ks e i b hx => (no hx).elim, fun T _ => congrFun hs T⟩
theorem lA.cU {env : Env} {A A' : Anchor} {ρ ρ' : af} {h h' : aL} {w w' : World} (hA : lA env A ρ h w) (hl : Fz.le ρ.fz ρ'.fz) (har : ρ'.fz.ar = ρ.fz.ar)
    (h1 : ∀ n T ks e, ay h' n = some (.ar T ks e) -> ay h n = some (.ar T ks e)) (h1' : ∀ T ks e, ay h (dI T) = some (.ar T ks e) -> ∃ ks' e', ay h' (dI T) = some (.ar T ks' e'))
    (h2 : ∀ n T ks e i c, ay h n = some (.ar T ks e) -> ρ.fz.ar T i = some c -> w'.heap[c]? = w.heap[c]?) (hsz : w.heap.size <= w'.heap.size) (hK : ∀ c, ¬ A.K c -> ¬ A'.K c) (hA' : A'.ar = A.ar)
    (h3 : ∀ m o q, ay h' m = some o -> o.owner = true -> ρ' m = some q -> (∃ m' o' q', ay h m' = some o' /\ o'.owner = true /\ ρ m' = some q' /\ q'.block = q.block) \/ w.heap.size <= q.block)
    (h4 : ∀ n T ks e i c, ay h n = some (.ar T ks e) -> ρ.fz.ar T i = some c -> ρ.fz c = Option.none -> ρ'.fz c = Option.none) :
    lA env A' ρ' h' w' := by
 refine ⟨fun n T ks e hn => ?_, fun n T ks e i b hn hb => ?_, fun n T ks e i b m o q hn hb hm ho hq => ?_, fun n T ks e i n' T' ks' e' i' b hn hn' hb hb' => ?_, fun n T ks e i b hn hb => ?_, fun T hT => ?_⟩
 ·obtain ⟨g1, g2⟩ := hA.cell n T ks e (h1 _ _ _ _ hn); rw [har]; refine ⟨g1, fun i hi => ?_⟩; obtain ⟨b, vs, k1, k2, k3, k4⟩ := g2 i hi; exact ⟨b, vs, k1, (h2 n T ks e i b (h1 _ _ _ _ hn) k1).trans k2, k3, aJ.Rel.mono hl (fun _ _ h => h) k4⟩
 ·rw [har] at hb; obtain ⟨a, c⟩ := hA.own n T ks e i b (h1 _ _ _ _ hn) hb; exact ⟨Nat.lt_of_lt_of_le a hsz, hK b c⟩
 ·rw [har] at hb; rcases h3 m o q hm ho hq with ⟨m', o', q', g1, g2, g3, g4⟩ | cW
  ·rw [<- g4]; exact hA.apart n T ks e i b m' o' q' (h1 _ _ _ _ hn) hb g1 g2 g3
  ·have := (hA.own n T ks e i b (h1 _ _ _ _ hn) hb).1; omega
 ·rw [har] at hb hb'; exact hA.inj n T ks e i n' T' ks' e' i' b (h1 _ _ _ _ hn) (h1 _ _ _ _ hn') hb hb'
 ·rw [har] at hb; exact h4 n T ks e i b (h1 _ _ _ _ hn) hb (hA.fz n T ks e i b (h1 _ _ _ _ hn) hb)
 ·rw [har, hA']; refine hA.stay T fun ks e hx => ?_; obtain ⟨ks', e', g⟩ := h1' T ks e hx; exact hT ks' e' g
theorem kT {o : aA} (h : o.owner = true) : o.mR = false := by cases o <;> first | rfl | cases h
theorem rJ {h : aL} {n : Nat} {o x : aA} (hn : ay h n = some o) (ho : o.mR = false) (hx : x.mR = false) :
    (∀ m T ks e, ay (bf h n x) m = some (.ar T ks e) -> ay h m = some (.ar T ks e)) /\ (∀ T ks e, ay h (dI T) = some (.ar T ks e) -> ay (bf h n x) (dI T) = some (.ar T ks e)) := by
 refine ⟨fun m T ks e hm => ?_, fun T ks e hm => ?_⟩
 ·rw [ai] at hm
  by_cases e' : m = n
  ·rw [if_pos e'] at hm; injection hm with hm; rw [hm] at hx; cases hx
  ·rw [if_neg e'] at hm; exact hm
 ·rw [ai]
  by_cases e' : dI T = n
  ·rw [e', hn] at hm; injection hm with hm; rw [hm] at ho; cases ho
  ·rw [if_neg e']; exact hm
theorem aA.Rel.place {env : Env} {w0 : Anchor} {w : World} {ρ : af} {n : Nat} {o : aA} (h : o.Rel env w0 ρ n w) (ho : o.owner = true) :
    ∃ p b, ρ n = some p /\ ¬ w0.K p.block /\ w.heap[p.block]? = some b := by
 cases o with
 | cells T cs => obtain ⟨p, vs, h1, h2, h3, h4, h5, h6⟩ := h; exact ⟨p, _, h1, h2, h6⟩
 | row T sz len cols tail => obtain ⟨p, vs, rest, h1, h2, h3, h4, h5, h6, h7⟩ := h; exact ⟨p, _, h1, h2, h7⟩
 | map m ix kk sz k => obtain ⟨p, es, clk, kv, h1, h2, h3, h4, h5, h6⟩ := h; exact ⟨p, _, h1, h2, h5⟩
 | k7 kk ag ks e it => obtain ⟨p, es, clk, h1, h2, h3, h4, h5, h6⟩ := h; exact ⟨p, _, h1, h2, h5⟩
 | pf m kk V => obtain ⟨p, q, s, kb, seen, h1, h2, h3, h4, h5, h6, h7, h8⟩ := h; exact ⟨p, _, h1, h2, h7⟩
 | rA T ks e => obtain ⟨p, l, cs, h1, h2, h3, h4, h5, h6⟩ := h; exact ⟨p, _, h1, h2, h5⟩
 | chan c => obtain ⟨p, room, buf, s, r, t, h1, h2, h3, h4, h5⟩ := h; exact ⟨p, _, h1, h2, h5⟩
 | qW => cases ho
 | ar => cases ho
 | fwd => cases ho
 | OB => cases ho
 | dP => cases ho
 | gone => cases ho
theorem az.update {env : Env} {w0 : Anchor} {w : World} {ρ : af} {h : aL} (H : az env w0 ρ h w) {n : Nat} {o o' : aA} {p : Pl} {b : Obj}
    (hn : ay h n = some o) (ho : o.owner = true) (hp : ρ n = some p) (ho' : o'.owner = true) (hr : o'.Rel env w0 ρ n (w.bd p.block b)) :
    az env w0 ρ (bf h n o') (w.bd p.block b) := by
 obtain ⟨q, bb, hq, hqb, hqw⟩ := (H.bk n o hn).place ho; have : q = p := by rw [hp] at hq; exact (Option.some.inj hq).symm
 subst this
 have habs : lA env w0 ρ (bf h n o') (w.bd q.block b) := by
  refine H.ar.cU (Fz.le_refl _) rfl (fun m T ks e hm => ?_) (fun T ks e hm => ?_) (fun m T ks e i c hm hc => dV fun e' => ?_) (by simp [World.bd]) (fun _ h => h) rfl (fun m x q' hm hx hq' => .inl ?_) (fun _ _ _ _ _ _ _ _ h => h)
  ·rw [ai] at hm
   by_cases e' : m = n
   ·rw [if_pos e'] at hm; injection hm with hm; rw [hm] at ho'; cases ho'
   ·rw [if_neg e'] at hm; exact hm
  ·rw [ai]
   by_cases e' : dI T = n
   ·rw [e', hn] at hm; injection hm with hm; rw [hm] at ho; cases ho
   ·rw [if_neg e']; exact ⟨ks, e, hm⟩
  ·exact (H.ar.apart m T ks e i c n o q hm hc hn ho hp) e'.symm
  ·rw [ai] at hm
   by_cases e : m = n
   ·subst e; exact ⟨m, o, q, hn, ho, hp, by rw [hp] at hq'; injection hq' with hq'; rw [hq']⟩
   ·rw [if_neg e] at hm; exact ⟨m, x, q', hm, hx, hq', rfl⟩
 have hfz : Ct w0 ρ (bf h n o') (w.bd q.block b) := by
  refine H.fz.cU rfl (fun c x hc hx => (dV (H.fz.free c x n o q hc hn ho hp).symm).trans hx) (fun m x q' hm hx hq' => .inl ?_); rw [ai] at hm
  by_cases e : m = n
  ·subst e; exact ⟨m, o, q, hn, ho, hp, by rw [hp] at hq'; injection hq' with hq'; rw [hq']⟩
  ·rw [if_neg e] at hm; exact ⟨m, x, q', hm, hx, hq', rfl⟩
 refine ⟨H.below.bd hqb b, fun m x hm => ?_, fun m k x y p' q' hm hk hx hy hp' hq' he => ?_, habs, hfz⟩
 ·rw [ai] at hm
  by_cases e : m = n
  ·subst e; simp at hm; subst hm; exact hr
  ·rw [if_neg e] at hm; refine (H.bk m x hm).cU (af.le_refl ρ) (fun p' hx hp' => dV fun he => e ?_) (fun h _ => h); exact H.inj m n x o p' q hm hn hx ho hp' hp he
 ·rw [ai] at hm hk
  by_cases e1 : m = n
  ·by_cases e2 : k = n
   ·rw [e1, e2]
   ·rw [if_neg e2] at hk; subst e1; exact H.inj m k o y p' q' hn hk ho hy hp' hq' he
  ·rw [if_neg e1] at hm
   by_cases e2 : k = n
   ·subst e2; exact H.inj m k x o p' q' hm hn hx ho hp' hq' he
   ·rw [if_neg e2] at hk; exact H.inj m k x y p' q' hm hk hx hy hp' hq' he
def af.set (ρ : af) (n : Nat) (p : Pl) : af := ⟨fun m => if m = n then some p else ρ m, ρ.fz⟩
theorem af.qD {ρ : af} {n m : Nat} {p : Pl} (e : ¬ m = n) : (ρ.set n p) m = ρ m := if_neg e
theorem af.xS {ρ : af} {n : Nat} {p : Pl} : (ρ.set n p) n = some p := if_pos rfl
theorem af.mX {ρ : af} {n : Nat} (h : ρ n = none) (p : Pl) : ρ.le (ρ.set n p) := ⟨fun m q hm => by
 by_cases e : m = n
 ·subst e; rw [h] at hm; cases hm
 ·rw [af.qD e]; exact hm, Fz.le_refl _⟩
theorem az.alloc {env : Env} {w0 : Anchor} {w : World} {ρ : af} {h : aL} (H : az env w0 ρ h w) {n : Nat} {o : aA} {b : Obj} {p : Pl}
    (hn : ay h n = some .dP) (hpb : p.block = w.heap.size) (ho : o.owner = true)
    (hr : o.Rel env w0 (ρ.set n p) n { w with heap := w.heap.push b }) :
    az env w0 (ρ.set n p) (bf h n o) { w with heap := w.heap.push b } := by
 have hnone : ρ n = none := H.bk n .dP hn; have hle := af.mX hnone p; have hsz := H.below.size
 have habs : lA env w0 (ρ.set n p) (bf h n o) { w with heap := w.heap.push b } := by
  refine H.ar.cU (Fz.le_refl _) rfl (fun m T ks e hm => ?_) (fun T ks e hm => ?_) (fun m T ks e i c hm hc => ?_) (by simp) (fun _ h => h) rfl (fun m x q' hm hx hq' => ?_) (fun _ _ _ _ _ _ _ _ h => h)
  ·rw [ai] at hm
   by_cases e' : m = n
   ·rw [if_pos e'] at hm; injection hm with hm; rw [hm] at ho; cases ho
   ·rw [if_neg e'] at hm; exact hm
  ·rw [ai]
   by_cases e' : dI T = n
   ·rw [e', hn] at hm; cases hm
   ·rw [if_neg e']; exact ⟨ks, e, hm⟩
  ·have cW : c < w.heap.size := (H.ar.own m T ks e i c hm hc).1; show (w.heap.push b)[c]? = _; rw [Array.getElem?_push, if_neg (by omega)]
  ·rw [ai] at hm
   by_cases e : m = n
   ·subst e; rw [af.xS] at hq'; injection hq' with hq'; exact .inr (by rw [<- hq', hpb]; exact Nat.le_refl _)
   ·rw [if_neg e] at hm; rw [af.qD e] at hq'; exact .inl ⟨m, x, q', hm, hx, hq', rfl⟩
 have hfz : Ct w0 (ρ.set n p) (bf h n o) { w with heap := w.heap.push b } := by
  refine H.fz.cU rfl (fun c x hc hx => ?_) (fun m x q' hm hx hq' => ?_)
  ·have cW := (Array.getElem?_eq_some_iff.1 hx).1; show (w.heap.push b)[c]? = _; rw [Array.getElem?_push, if_neg (by omega)]; exact hx
  ·rw [ai] at hm
   by_cases e : m = n
   ·subst e; rw [af.xS] at hq'; injection hq' with hq'; exact .inr (by rw [<- hq', hpb]; exact Nat.le_refl _)
   ·rw [if_neg e] at hm; rw [af.qD e] at hq'; exact .inl ⟨m, x, q', hm, hx, hq', rfl⟩
 refine ⟨H.below.alloc b, fun m x hm => ?_, fun m k x y p' q' hm hk hx hy hp' hq' he => ?_, habs, hfz⟩
 ·rw [ai] at hm
  by_cases e : m = n
  ·subst e; simp at hm; subst hm; exact hr
  ·rw [if_neg e] at hm; refine (H.bk m x hm).cU hle (fun p' hx hp' => ?_) (fun h0 _ => by rw [af.qD e]; exact h0)
   obtain ⟨q, bb, hq, hqb, hqw⟩ := (H.bk m x hm).place hx; have : q = p' := by rw [hp'] at hq; exact (Option.some.inj hq).symm
   subst this; have : q.block < w.heap.size := (Array.getElem?_eq_some_iff.1 hqw).1; show (w.heap.push b)[q.block]? = _; rw [Array.getElem?_push, if_neg (by omega)]
 ·rw [ai] at hm hk
  have iM : ∀ m x p', m ≠ n -> ay h m = some x -> x.owner = true -> (ρ.set n p) m = some p' -> p'.block < w.heap.size /\ ρ m = some p' := by
   intro m x p' e hm hx hp'; rw [af.qD e] at hp'; obtain ⟨q, bb, hq, hqb, hqw⟩ := (H.bk m x hm).place hx; have : q = p' := by rw [hp'] at hq; exact (Option.some.inj hq).symm
   subst this; exact ⟨(Array.getElem?_eq_some_iff.1 hqw).1, hp'⟩
  have new : ∀ p', (ρ.set n p) n = some p' -> p'.block = w.heap.size := by
   intro p' hp'; rw [af.xS] at hp'; injection hp' with hp'; rw [<- hp', hpb]
  by_cases e1 : m = n
  ·by_cases e2 : k = n
   ·rw [e1, e2]
   ·rw [if_neg e2] at hk; subst e1; have := new _ hp'; have := (iM k y q' e2 hk hy hq').1; omega
  ·rw [if_neg e1] at hm
   by_cases e2 : k = n
   ·subst e2; have := new _ hq'; have := (iM m x p' e1 hm hx hp').1; omega
   ·rw [if_neg e2] at hk; exact H.inj m k x y p' q' hm hk hx hy (iM m x p' e1 hm hx hp').2 (iM k y q' e2 hk hy hq').2 he
theorem az.forget {env : Env} {w0 : Anchor} {w : World} {ρ : af} {h : aL} (H : az env w0 ρ h w) (n : Nat) (hna : ∀ o, ay h n = some o -> o.mR = false) : az env w0 ρ (bf h n .gone) w := by
 have sub : ∀ m x, ay (bf h n .gone) m = some x -> x.owner = true -> ay h m = some x := fun m x hm hx => by
  rw [ai] at hm
  by_cases e : m = n
  ·subst e; simp at hm; subst hm; cases hx
  ·rw [if_neg e] at hm; exact hm
 have habs : lA env w0 ρ (bf h n .gone) w := by
  refine H.ar.cU (Fz.le_refl _) rfl (fun m T ks e hm => ?_) (fun T ks e hm => ?_) (fun _ _ _ _ _ _ _ _ => rfl) (Nat.le_refl _) (fun _ h => h) rfl (fun m x q' hm hx hq' => .inl ⟨m, x, q', sub m x hm hx, hx, hq', rfl⟩) (fun _ _ _ _ _ _ _ _ h => h)
  ·rw [ai] at hm
   by_cases e' : m = n
   ·rw [if_pos e'] at hm; cases hm
   ·rw [if_neg e'] at hm; exact hm
  ·rw [ai]
   by_cases e' : dI T = n
   ·have := hna _ (by rw [<- e']; exact hm); cases this
   ·rw [if_neg e']; exact ⟨ks, e, hm⟩
 refine ⟨H.below, fun m x hm => ?_, fun m k x y p' q' hm hk hx hy hp' hq' he => ?_, habs, H.fz.cU rfl (fun _ _ _ h => h) (fun m x q' hm hx hq' => .inl ⟨m, x, q', sub m x hm hx, hx, hq', rfl⟩)⟩
 ·rw [ai] at hm
  by_cases e : m = n
  ·subst e; simp at hm; subst hm; trivial
  ·rw [if_neg e] at hm; exact H.bk m x hm
 ·rw [ai] at hm hk
  by_cases e1 : m = n
  ·subst e1; simp at hm; subst hm; cases hx
  ·by_cases e2 : k = n
   ·subst e2; simp at hk; subst hk; cases hy
   ·rw [if_neg e1] at hm; rw [if_neg e2] at hk; exact H.inj m k x y p' q' hm hk hx hy hp' hq' he
theorem az.Au {env : Env} {w0 : Anchor} {w : World} {ρ : af} {h : aL} (H : az env w0 ρ h w) {n : Nat} {o : aA} (hn : ay h n = some o) (ho : o.mR = false := by exact rfl) : az env w0 ρ (bf h n .gone) w :=
 H.forget n fun o' h' => by rw [hn] at h'; injection h' with h'; rw [<- h']; exact ho
theorem az.drawn {env : Env} {w0 : Anchor} {w w' : World} {ρ : af} {h : aL} (H : az env w0 ρ h w) (hh : w'.heap = w.heap) (ho : w'.os = w.os) (ht : w'.tape = w.tape) (hout : w'.output = w.output) : az env w0 ρ h w' := by
 refine ⟨⟨ho.trans H.below.os, ht.trans H.below.tape, hout.trans H.below.output, by rw [hh]; exact H.below.size, fun k hk => by rw [hh]; exact H.below.block k hk⟩, fun m x hm => ?_, H.inj, ?_, H.fz.cU rfl (fun _ _ _ h => by rw [hh]; exact h) (fun m x q' hm hx hq' => .inl ⟨m, x, q', hm, hx, hq', rfl⟩)⟩
 rotate_left
 ·exact H.ar.cU (Fz.le_refl _) rfl (fun _ _ _ _ h => h) (fun T ks e h => ⟨ks, e, h⟩) (fun _ _ _ _ _ _ _ _ => by rw [hh]) (by rw [hh]; exact Nat.le_refl _) (fun _ h => h) rfl (fun m x q' hm hx hq' => .inl ⟨m, x, q', hm, hx, hq', rfl⟩) (fun _ _ _ _ _ _ _ _ h => h)
 exact (H.bk m x hm).cU (af.le_refl ρ) (fun _ _ _ => by rw [hh]) (fun h _ => h)
section
variable {P : Program}
theorem aN {t : TypeId} {d : TypeDesc} (h : P.underlying t = some d) (w : World) : (underlying t).run P w = .ok d w := by
 simp [underlying, h]
theorem qc {t : TypeId} {i : TypeInfo} (h : P.info? t = some i) (w : World) : (typeInfo t).run P w = .ok i w := by
 have : P.toTables.info? t = some i := h; simp [typeInfo, this]
theorem cb {t : TypeId} {i : TypeInfo} (h : P.info? t = some i) (w : World) : (sizeOf t).run P w = .ok i.size w := by
 simp [sizeOf, qc h]
theorem qT {t : TypeId} {i : TypeInfo} {z : Value} (h : P.info? t = some i) (hz : i.zero = some z) (w : World) : (zeroValue t).run P w = .ok z w := by
 simp [zeroValue, qc h, hz]
theorem iY {t : TypeId} {d : TypeDesc} (h : P.underlying t = some d) (w : World) : (isAgg t).run P w = .ok (jz d) w := by
 cases d <;> simp [isAgg, aN h, jz]
end
theorem cT (b o j : Nat) : (⟨b, o, none⟩ : Addr).add j = ⟨b, o + j, none⟩ := by unfold Addr.add; split <;> simp_all
mutual
theorem ofVal_ok {env : Env} {ρ : af} : ∀ (v : Value) {x : SV}, ofVal v = some x -> x.Rel env ρ v
 | .bool b, x, h => by simp only [ofVal] at h; injection h with h; subst h; rfl
 | .int k n, x, h => by simp only [ofVal] at h; injection h with h; subst h; rfl
 | .string s, x, h => by
   simp only [ofVal] at h; injection h with h; subst h; show Value.string s = .string ⟨s.data.toList.toArray⟩; simp
 | .float .f64 b, x, h => by simp only [ofVal] at h; injection h with h; subst h; rfl
 | .float .f32 b, x, h => by simp only [ofVal] at h; cases h
 | .complex .., x, h => by simp only [ofVal] at h; cases h
 | .pointer none, x, h => by simp only [ofVal] at h; injection h with h; subst h; rfl
 | .pointer (some _), x, h => by simp only [ofVal] at h; cases h
 | .slice none 0 0, x, h => by simp only [ofVal] at h; injection h with h; subst h; rfl
 | .slice (some _) _ _, x, h => by simp only [ofVal] at h; cases h
 | .slice none (_ + 1) _, x, h => by simp only [ofVal] at h; cases h
 | .slice none 0 (_ + 1), x, h => by simp only [ofVal] at h; cases h
 | .map none, x, h => by simp only [ofVal] at h; injection h with h; subst h; rfl
 | .map (some _), x, h => by simp only [ofVal] at h; cases h
 | .chan none, x, h => by simp only [ofVal] at h; injection h with h; subst h; rfl
 | .chan (some _), x, h => by simp only [ofVal] at h; cases h
 | .nilFunc, x, h => by simp only [ofVal] at h; injection h with h; subst h; rfl
 | .nilIface, x, h => by simp only [ofVal] at h; injection h with h; subst h; rfl
 | .iface _ _, x, h => by simp only [ofVal] at h; cases h
 | .func f ⟨[]⟩ ⟨[]⟩, x, h => by simp only [ofVal] at h; injection h with h; subst h; exact ⟨[], [], rfl, rfl, rfl⟩
 | .func f ⟨_ :: _⟩ _, x, h => by simp only [ofVal] at h; cases h
 | .func f ⟨[]⟩ ⟨_ :: _⟩, x, h => by simp only [ofVal] at h; cases h
 | .agg ⟨cs⟩, x, h => by
   simp only [ofVal] at h; cases hc : ofVals cs with
   | none => rw [hc] at h; cases h
   | some l => rw [hc] at h; injection h with h; subst h; exact ⟨cs, rfl, ofVals_ok cs hc⟩
 | .tuple ⟨cs⟩, x, h => by
   simp only [ofVal] at h; cases hc : ofVals cs with
   | none => rw [hc] at h; cases h
   | some l => rw [hc] at h; injection h with h; subst h; exact ⟨cs, rfl, ofVals_ok cs hc⟩
theorem ofVals_ok {env : Env} {ρ : af} : ∀ (vs : List Value) {l : List SV}, ofVals vs = some l -> SV.aD env ρ l vs
 | [], l, h => by simp only [ofVals] at h; injection h with h; subst h; rfl
 | v :: r, l, h => by
   simp only [ofVals] at h; cases h1 : ofVal v with
   | none => rw [h1] at h; cases h
   | some x =>
     cases h2 : ofVals r with
     | none => rw [h1, h2] at h; cases h
     | some m => rw [h1, h2] at h; injection h with h; subst h; exact ⟨v, r, rfl, ofVal_ok v h1, ofVals_ok r h2⟩
end
theorem wj {env : Env} {ρ : af} {sl : List SV} {a : Act} (hs : SV.aD env ρ sl a.tmps.toList) {x : Operand} {s : SV} (h : ff sl x = some s) :
    s.Rel env ρ (a.eval x) := by
 cases x with
 | tmp t =>
   simp only [ff, Option.some.injEq] at h; subst h; show SV.Rel env ρ _ (a.tmps.getD t undef); cases hl : sl[t]? with
   | some y =>
     obtain ⟨v, h1, h2⟩ := hs.get hl; have : a.tmps[t]? = some v := by simpa using h1
     simp only [Array.getD_eq_getD_getElem?, this, Option.getD_some]; exact h2
   | none =>
     have hlen := hs.length; have : sl.length <= t := by simpa using hl
     have h2 : a.tmps[t]? = none := by simp at hlen ⊢; omega
     simp only [Array.getD_eq_getD_getElem?, h2, Option.getD_none]; exact ⟨[], rfl, rfl⟩
 | const v => exact ofVal_ok v h
 | global g => cases h
 | func f => simp only [ff, Option.some.injEq] at h; subst h; exact ⟨[], [], rfl, rfl, rfl⟩
theorem SV.Gq {env : Env} {ρ : af} {x : SV} {v : Value} (h : x.one = true) (hr : x.Rel env ρ v) : v.oneCell' = true := by
 cases x <;> simp only [SV.one] at h <;> simp only [SV.Rel] at hr <;> try (cases h; done)
 all_goals first
  | (subst hr; rfl)
  | (rcases hr with ⟨_, rfl⟩ | ⟨_, _, _, rfl⟩ <;> rfl)
  | (obtain ⟨_, _, _, rfl, _⟩ := hr; rfl)
  | (obtain ⟨_, _, rfl, _⟩ := hr; rfl)
  | (obtain ⟨_, _, rfl⟩ := hr; rfl)
  | (obtain ⟨_, rfl, _⟩ := hr; rfl)
  | (obtain ⟨_, rfl⟩ := hr; rfl)
theorem fL {env : Env} {ρ : af} {x : SV} {v : Value} (hv : x.shut = true) (hr : x.Rel env ρ v) : SV.aD env ρ x.cells v.cells.toList := by
 cases x with
 | agg l =>
   simp only [SV.Rel] at hr; obtain ⟨y, rfl, hy⟩ := hr; exact hy
 | val c i => cases hv
 | top => cases hv
 | B1 _ => cases hv
 | _ =>
   have hc : v.cells = #[v] := by
    simp only [SV.Rel] at hr
    first
     | (subst hr; rfl)
     | (rcases hr with ⟨_, rfl⟩ | ⟨_, _, _, rfl⟩ <;> rfl)
     | (obtain ⟨_, _, _, rfl, _⟩ := hr; rfl)
     | (obtain ⟨_, _, rfl, _⟩ := hr; rfl)
     | (obtain ⟨_, _, rfl⟩ := hr; rfl)
     | (obtain ⟨_, rfl, _⟩ := hr; rfl)
     | (obtain ⟨_, rfl⟩ := hr; rfl)
   rw [hc]; exact ⟨v, [], rfl, hr, rfl⟩
theorem ot {x : SV} (h : x.cells.all SV.one = true) : x.shut = true := by
 cases x <;> simp [SV.cells, SV.one, SV.shut] at h ⊢
theorem iK {env : Env} {l : List SV} {j n : Nat} {r : List SV} {h h' : aL} : (takeN l j n).bx env h r h' ↔ r = (l.drop j).take n /\ r.length = n /\ h = h' := by
 simp only [takeN, run_bind, aq, run_pure]; constructor
 ·rintro ⟨_, _, ⟨h1, rfl⟩, rfl, rfl⟩; exact ⟨rfl, Nat.eq_of_beq_eq_true h1, rfl⟩
 ·rintro ⟨rfl, h1, rfl⟩; exact ⟨(), _, ⟨by rw [h1]; exact Nat.beq_refl n, rfl⟩, rfl, rfl⟩
theorem ch.Vo {env : Env} {ρ : af} {bY : ch} {e : E} {i : Nat} {v : Value} (hi : (e.den env).I = (i : Int)) (h : (bY.at (.il i)).Rel env ρ v) : (bY.at e).Rel env ρ v := by
 have hi' : (e.den env).I = ((E.il i).den env).I := hi; cases bY with
 | tc k x j =>
   rw [ch.at, cM] at h ⊢; simp only [E.den, O2.den] at h hi' ⊢; rw [hi']; exact h
 | cg ks c =>
   simp only [ch.at, SV.Rel, E.den] at h hi' ⊢; rw [hi']; exact h
 | _ => simp only [ch.at, SV.Rel, E.den] at h hi' ⊢; rw [hi']; exact h
theorem CG {env : Env} {a b : E} : ((kY a b).den env).B = decide ((a.den env).I <= (b.den env).I) := by rw [kY, bn]; rfl
theorem KH {env : Env} {a b : E} : ((Kr a b).den env).B = decide ((a.den env).I < (b.den env).I) := by rw [Kr, bn]; rfl
theorem cq {env : Env} {a b : E} : ((kY a b).den env).B = true ↔ (a.den env).I <= (b.den env).I := by rw [CG]; exact decide_eq_true_iff
theorem u5 {env : Env} {a b : E} : ((Kr a b).den env).B = true ↔ (a.den env).I < (b.den env).I := by rw [KH]; exact decide_eq_true_iff
theorem dS {env : Env} {z : Int} : ((E.il z).den env).I = z := rfl
theorem sy {env : Env} {i len : E} {u : Unit} {h h' : aL} : (Xo i len).bx env h u h' ↔ (0 <= (i.den env).I /\ (i.den env).I < (len.den env).I) /\ h = h' := by
 simp only [Xo, run_bind, bU, cq, u5, dS]; constructor
 ·rintro ⟨_, _, ⟨h1, rfl⟩, h2, rfl⟩; exact ⟨⟨h1, h2⟩, rfl⟩
 ·rintro ⟨⟨h1, h2⟩, rfl⟩; exact ⟨(), _, ⟨h1, rfl⟩, h2, rfl⟩
theorem u6 {env : Env} {ρ : af} {i : E} {k : Nat} (hi : (i.den env).I = (k : Int)) : ∀ (cols : List ch) (f : Nat -> Option Value),
    (∀ (j : Nat) (bY : ch), cols[j]? = some bY -> ∃ v, f j = some v /\ (bY.at (.il k)).Rel env ρ v) ->
    ∃ vs, SV.aD env ρ (cols.map (·.at i)) vs /\ ∀ j v, vs[j]? = some v -> f j = some v
 | [], f, _ => ⟨[], rfl, fun j v h => by simp at h⟩
 | c :: r, f, h => by
   obtain ⟨v, h1, h2⟩ := h 0 c rfl; obtain ⟨vs, h3, h4⟩ := u6 hi r (fun j => f (j + 1)) (fun j bY hj => h (j + 1) bY (by simpa using hj))
   refine ⟨v :: vs, ⟨v, vs, rfl, ch.Vo hi h2, h3⟩, fun j u hu => ?_⟩; cases j with
   | zero => simp at hu; subst hu; exact h1
   | succ j => exact h4 j u (by simpa using hu)
theorem ni {env : Env} {e : E} {n : Nat} (h : nat? e = some n) : (e.den env).I = (n : Int) := by
 unfold nat? at h; split at h
 ·injection h with h; subst h; rfl
 ·cases h
theorem lD {α : Type} {sz : Nat} : ∀ {l : List (List α)} {k : Nat} {x : List α}, (∀ t ∈ l, t.length = sz) -> l[k]? = some x -> (l.flatten.drop (k * sz)).take sz = x
 | [], _, _, _, h => by simp at h
 | y :: r, 0, x, hl, h => by
   simp at h; subst h; have : y.length = sz := hl y (List.mem_cons_self ..); simp [<- this]
 | y :: r, k + 1, x, hl, h => by
   have hy : y.length = sz := hl y (List.mem_cons_self ..); have := lD (l := r) (k := k) (fun t ht => hl t (List.mem_cons_of_mem _ ht)) (by simpa using h)
   rw [List.flatten_cons, Nat.succ_mul, Nat.add_comm, <- List.drop_drop, <- hy, List.drop_left, hy]; exact this
theorem dx {l : List Value} {a n j : Nat} {v : Value} (h : ((l.drop a).take n)[j]? = some v) : l[a + j]? = some v /\ j < n := by
 rw [List.getElem?_take] at h; split at h
 ·rw [List.getElem?_drop] at h; exact ⟨h, by assumption⟩
 ·cases h
theorem Cy {env : Env} {i : E} : ∀ {m k : Nat} {b : Nat} {h h' : aL}, (DI i k m).bx env h b h' -> h = h' /\ (i.den env).I = (b : Int)
 | 0, _, _, _, _, he => he.elim
 | 1, k, b, h, h', he => by
   simp only [DI, run_bind, bU, run_pure] at he; obtain ⟨_, _, ⟨ht, rfl⟩, rfl, rfl⟩ := he; rw [bn] at ht; have ht : ((i.den env).I == (k : Int)) = true := ht; exact ⟨rfl, by simpa using ht⟩
 | m + 2, k, b, h, h', he => by
   simp only [DI, run_bind, gX] at he; obtain ⟨t, _, ⟨ht, rfl⟩, he⟩ := he; cases t with
   | true =>
     simp only [run_pure] at he; obtain ⟨rfl, rfl⟩ := he; rw [bn] at ht; have ht : ((i.den env).I == (k : Int)) = true := ht; exact ⟨rfl, by simpa using ht⟩
   | false => exact Cy he
theorem RK {env : Env} {i : E} {n b : Nat} {h h' : aL} (he : (U2 i n).bx env h b h') : h = h' /\ (i.den env).I = (b : Int) := by
 unfold U2 at he; cases hn : nat? i with
 | some c =>
   rw [hn] at he; simp only [aT] at he; obtain ⟨rfl, rfl⟩ := he; exact ⟨rfl, ni hn⟩
 | none => rw [hn] at he; exact Cy he
theorem O6 {env : Env} {w0 : Anchor} {w : World} {ρ : af} {h : aL} (H : az env w0 ρ h w) {b j : Nat} {v : Value} (hv : cu ρ.fz b j = some v) : w.cell? ⟨b, j, none⟩ = some v := by
 unfold cu at hv; cases hb : ρ.fz b with
 | none => rw [hb] at hv; cases hv
 | some x =>
   rw [hb] at hv; have hw := H.fz.at_ b x hb
   cases x <;> first
    | (simp only at hv; simp [World.cell?, hw, hv]; done)
    | (cases hv; done)
theorem ym {env : Env} {w0 : Anchor} {w : World} {ρ : af} {h h' : aL} (H : az env w0 ρ h w) {n : Nat} {o : aA} (hn : ay h n = some o) {p : Pl} (hp : ρ n = some p)
    {off : mg} {cnt : Nat} {l : List SV} (he : (dp o off cnt).bx env h l h') :
    h = h' /\ ∃ vs, SV.aD env ρ l vs /\ vs.length = cnt /\ ∀ j v, vs[j]? = some v -> w.cell? ((⟨p.block, p.base + off.den env, none⟩ : Addr).add j) = some v := by
 have hobj := H.bk n o hn; cases o with
 | cells T cs =>
   cases off with
   | el i s j => simp [dp, Prog.bx] at he
   | c j =>
     simp only [dp, iK] at he; obtain ⟨rfl, hlen, rfl⟩ := he; obtain ⟨q, vs, h1, h2, h3, h4, h5, h6⟩ := hobj; obtain rfl : q = p := by rw [hp] at h1; exact (Option.some.inj h1).symm
     have hr := (h5.drop j).take cnt; refine ⟨rfl, _, hr, by rw [hr.length]; exact hlen, fun k v hk => ?_⟩
     obtain ⟨hk1, hk2⟩ := dx hk; rw [cT, cell_of h6, h3]; simp only [mg.den, Nat.zero_add]; simpa using hk1
 | row T sz len cols tail =>
   cases off with
   | c j => simp [dp, Prog.bx] at he
   | el i s j =>
     obtain ⟨q, vs, rest, h1, h2, h3, h4, ⟨base, tl, rfl, hb1, hb2, hb3, hb4, hb5⟩, h6, h7⟩ := hobj; obtain rfl : q = p := by rw [hp] at h1; exact (Option.some.inj h1).symm
     simp only [dp, run_bind, aq] at he; obtain ⟨_, _, ⟨hsz, rfl⟩, he⟩ := he; obtain rfl := Nat.eq_of_beq_eq_true hsz
     have given : ∀ k : Nat, (i.den env).I = (k : Int) -> k < (len.den env).I.toNat -> ∀ r, r = ((cols.map (·.at i)).drop j).take cnt -> r.length = cnt ->
         ∃ vs, SV.aD env ρ r vs /\ vs.length = cnt /\ ∀ j' v, vs[j']? = some v -> w.cell? ((⟨q.block, q.base + (mg.el i sz j).den env, none⟩ : Addr).add j') = some v := by
      intro k hk cW r hr hrl; obtain ⟨us, hus, ay⟩ := u6 hk cols (fun jj => base[k * sz + jj]?) (fun jj bY hc => hb2 k cW jj bY hc); have hr2 := (hus.drop j).take cnt; rw [<- hr] at hr2; refine ⟨_, hr2, by rw [hr2.length]; exact hrl, fun jj v hv => ?_⟩
      obtain ⟨hv1, hv2⟩ := dx hv; have := ay _ _ hv1; rw [cT, cell_of h7, h3]; simp only [mg.den, hk, Int.toNat_natCast, Nat.zero_add]
      have hlt2 : k * sz + (j + jj) < base.length := by
       obtain ⟨hx, _⟩ := List.getElem?_eq_some_iff.1 this; exact hx
      rw [List.getElem?_toArray, Nat.add_assoc, List.append_assoc, List.getElem?_append_left hlt2]; exact this
     cases tail with
     | nil =>
       simp only [sy, iK, run_bind] at he; obtain ⟨_, _, ⟨⟨hi0, hi1⟩, rfl⟩, hl, hlen, rfl⟩ := he; obtain ⟨k, hk⟩ : ∃ k : Nat, (i.den env).I = (k : Int) := ⟨(i.den env).I.toNat, by omega⟩
       obtain ⟨us, g1, g2, g3⟩ := given k hk (by omega) l hl hlen
       exact ⟨rfl, us, g1, g2, g3⟩
     | cons t0 tr =>
       simp only [run_bind, ae] at he; obtain ⟨a, _, ⟨ha, rfl⟩, b, _, hb, he⟩ := he; have hA := ni (env := env) ha; obtain ⟨rfl, hB⟩ := RK hb; cases cW : Nat.blt b a with
       | true =>
         rw [cW] at he; simp only [iK] at he; obtain ⟨hl, hlen, rfl⟩ := he; have hba : b < a := by simp [Nat.blt] at cW; omega
         obtain ⟨us, g1, g2, g3⟩ := given b hB (by rw [hA]; simpa using hba) l hl hlen
         exact ⟨rfl, us, g1, g2, g3⟩
       | false =>
         rw [cW] at he; simp only [run_bind, ae, iK] at he; obtain ⟨x, _, ⟨hx, rfl⟩, hl, hlen, rfl⟩ := he
         have hba : a <= b := by
          have : ¬ b < a := fun hh => by
           have : Nat.blt b a = true := by simp [Nat.blt]; omega
           rw [this] at cW; cases cW
          omega
         have hxl := lD (k := b - a) hb4 hx; have hr := ((hb3.drop ((b - a) * sz)).take sz); rw [hxl] at hr; have hr2 := (hr.drop j).take cnt; rw [<- hl] at hr2; refine ⟨rfl, _, hr2, by rw [hr2.length]; exact hlen, fun jj v hv => ?_⟩
         obtain ⟨hv1, hv2⟩ := dx hv; obtain ⟨hv3, hv4⟩ := dx hv1; rw [cT, cell_of h7, h3]; simp only [mg.den, hB, Int.toNat_natCast, Nat.zero_add]; have hbl : base.length = a * sz := by rw [hb1, hA]; simp
         have e : b * sz + j + jj = base.length + ((b - a) * sz + (j + jj)) := by
          have : b * sz = a * sz + (b - a) * sz := by rw [<- Nat.add_mul]; congr 1; omega
          omega
         rw [List.getElem?_toArray, e, List.append_assoc, List.getElem?_append_right (by omega), Nat.add_sub_cancel_left]
         obtain ⟨hx1, _⟩ := List.getElem?_eq_some_iff.1 hv3; rw [List.getElem?_append_left hx1]; exact hv3
 | qW sz len cols =>
   cases off with
   | c j => simp [dp, Prog.bx] at he
   | el i s j =>
     obtain ⟨q, h1, h2, h3, h45⟩ := hobj; obtain rfl : q = p := by rw [hp] at h1; exact (Option.some.inj h1).symm
     simp only [dp, run_bind, aq, sy, iK] at he; obtain ⟨_, _, ⟨hsz, rfl⟩, _, _, ⟨⟨hi0, hi1⟩, rfl⟩, hl, hlen, rfl⟩ := he; obtain rfl := Nat.eq_of_beq_eq_true hsz; obtain ⟨k, hk⟩ : ∃ k : Nat, (i.den env).I = (k : Int) := ⟨(i.den env).I.toNat, by omega⟩
     have hnil : q.nil = false := by
      cases hq : q.nil with
      | false => rfl
      | true => have := h3 hq; omega
     rcases h45 with ⟨_, h4, h5⟩ | ⟨_, h4, _, h5⟩
     ·have hblk := h4 (by omega)
      obtain ⟨us, hus, ay⟩ := u6 hk cols (fun jj => w0.w.cell? ⟨q.block, q.base + k * sz + jj, none⟩) (fun jj bY hc => h5 k (by omega) jj bY hc)
      have hr2 := (hus.drop j).take cnt; rw [<- hl] at hr2; refine ⟨rfl, _, hr2, by rw [hr2.length]; exact hlen, fun jj v hv => ?_⟩
      obtain ⟨hv1, hv2⟩ := dx hv; have := ay _ _ hv1; rw [cT, H.below.cell (p := ⟨q.block, _, none⟩) hblk]; simp only [mg.den, hk, Int.toNat_natCast]; rw [<- this]
      congr 2
      omega
     ·obtain ⟨us, hus, ay⟩ := u6 hk cols (fun jj => cu ρ.fz q.block (k * sz + jj)) (fun jj bY hc => h5 k (by omega) jj bY hc)
      have hr2 := (hus.drop j).take cnt; rw [<- hl] at hr2; refine ⟨rfl, _, hr2, by rw [hr2.length]; exact hlen, fun jj v hv => ?_⟩
      obtain ⟨hv1, hv2⟩ := dx hv; have := O6 H (ay _ _ hv1); rw [cT]; simp only [mg.den, hk, Int.toNat_natCast, h4, Nat.zero_add]; rw [<- this]
      congr 2
      omega
 | map => simp [dp, Prog.bx] at he
 | ar => simp [dp, Prog.bx] at he
 | fwd => simp [dp, Prog.bx] at he
 | OB => simp [dp, Prog.bx] at he
 | k7 => simp [dp, Prog.bx] at he
 | pf => simp [dp, Prog.bx] at he
 | rA => simp [dp, Prog.bx] at he
 | chan => simp [dp, Prog.bx] at he
 | dP => simp [dp, Prog.bx] at he
 | gone => simp [dp, Prog.bx] at he
def aF (P : Program) (env : Env) (w0 : Anchor) (ρ : af) (nm : Nat) (h' : aL) (w : World) (s : Sem Value) (x : SV) : Prop :=
 ∃ v w' ρ', s.run P w = .ok v w' /\ ρ.le ρ' /\ (∀ n, ρ n = none -> ρ' n = none \/ n = nm) /\ az env w0 ρ' h' w' /\ x.Rel env ρ' v
theorem aF.same {P : Program} {env : Env} {w0 : Anchor} {ρ : af} {nm : Nat} {h : aL} {w : World} {s : Sem Value} {x : SV} {v : Value}
    (H : az env w0 ρ h w) (hr : s.run P w = .ok v w) (hx : x.Rel env ρ v) : aF P env w0 ρ nm h w s x :=
 ⟨v, w, ρ, hr, af.le_refl ρ, fun n hn => .inl hn, H, hx⟩
section
variable {P : Program} {env : Env} {w0 : Anchor} {w : World} {ρ : af} {h h' : aL} {nm : Nat}
theorem bF {t : TypeId} {d : TypeDesc} : (p8 P t).bx env h d h' ↔ P.underlying t = some d /\ h = h' := ae
theorem eR {t : TypeId} {i : TypeInfo} : (inf P t).bx env h i h' ↔ P.info? t = some i /\ h = h' := ae
theorem gP {t : TypeId} {z : SV} : (nQ P t).bx env h z h' ↔ (∃ i zv, P.info? t = some i /\ i.zero = some zv /\ ofVal zv = some z) /\ h = h' := by
 simp only [nQ, run_bind, eR, ae]; constructor
 ·rintro ⟨i, _, ⟨h1, rfl⟩, zv, _, ⟨h2, rfl⟩, h3, rfl⟩; exact ⟨⟨i, zv, h1, h2, h3⟩, rfl⟩
 ·rintro ⟨⟨i, zv, h1, h2, h3⟩, rfl⟩; exact ⟨i, _, ⟨h1, rfl⟩, zv, _, ⟨h2, rfl⟩, h3, rfl⟩
theorem dc {t : TypeId} {s : Nat} (hs : kf P t = some s) : ∃ i, P.info? t = some i /\ i.size = s := by
 unfold kf at hs; cases hi : P.info? t with
 | none => rw [hi] at hs; cases hs
 | some i => rw [hi] at hs; exact ⟨i, rfl, by simpa using hs⟩
theorem AI {t : TypeId} {z : SV} (hz : ∃ i zv, P.info? t = some i /\ i.zero = some zv /\ ofVal zv = some z) (w : World) : ∃ v, (zeroValue t).run P w = .ok v w /\ z.Rel env ρ v := by
 obtain ⟨i, zv, h1, h2, h3⟩ := hz; exact ⟨zv, qT h1 h2 w, ofVal_ok zv h3⟩
theorem nf {v : Value} {z : SV} (hz : ofVal v = some z) : z.shut = true := by
 unfold ofVal at hz
 split at hz <;> first
  | (cases hz; done)
  | (injection hz with hz; subst hz; rfl)
  | (rename_i cs; cases hc : ofVals cs with
     | none => rw [hc] at hz; cases hz
     | some l => rw [hc] at hz; injection hz with hz; subst hz; rfl)
theorem mz {ks : aJ} {e i : E} {cell : Nat -> Option Value} (hr : ks.Rel ρ.fz (fun j => (e.den env).at (i.den env).I.toNat j) cell 0) :
    ∀ {n j : Nat} {l : List SV}, pd ks e i j n = some l -> ∃ vs, SV.aD env ρ l vs /\ vs.length = n /\ ∀ k v, vs[k]? = some v -> cell (j + k) = some v
 | 0, j, l, h => by
   simp only [pd, Option.some.injEq] at h; subst h; exact ⟨[], rfl, rfl, fun k v hk => by simp at hk⟩
 | n + 1, j, l, h => by
   unfold pd at h; split at h
   ·rename_i k l' hk hl; injection h with h; subst h; obtain ⟨v, hv, hd⟩ := hr.get hk; obtain ⟨vs, g1, g2, g3⟩ := mz hr hl; rw [Nat.zero_add] at hv hd; refine ⟨v :: vs, ⟨v, vs, rfl, cM.2 (by rw [bn]; exact hd), g1⟩, by simp [g2], fun m u hm => ?_⟩
    cases m with
    | zero => simp at hm; subst hm; exact hv
    | succ m =>
      rw [show j + (m + 1) = j + 1 + m by omega]
      exact g3 m u (by simpa using hm)
   ·cases h
theorem uh (H : az env w0 ρ h w) {b j : Nat} {v : Value} (hv : cu ρ.fz b j = some v) : w.cell? ⟨b, j, none⟩ = some v := by
 unfold cu at hv; cases hb : ρ.fz b with
 | none => rw [hb] at hv; cases hv
 | some x =>
   rw [hb] at hv; have hw := H.fz.at_ b x hb
   cases x <;> first
    | (simp only at hv; simp [World.cell?, hw, hv]; done)
    | (cases hv; done)
theorem qJ (H : az env w0 ρ h w) {t : TypeId} {x r : SV} {v : Value} (hx : x.Rel env ρ v) (he : (uj P t x).bx env h r h') :
    h = h' /\ ∃ u, (Instr.loadAt t v).run P w = .ok u w /\ r.Rel env ρ u := by
 cases x with
 | ptr n off =>
   simp only [SV.Rel] at hx; obtain ⟨p, hp, rfl⟩ := hx; simp only [uj, run_bind, bF, eR, aU] at he; obtain ⟨d, _, ⟨hd, rfl⟩, i, _, ⟨hi, rfl⟩, o, _, ⟨ho, rfl⟩, he⟩ := he; cases hagg : jz d with
   | true =>
     rw [hagg] at he; simp only [run_bind, run_pure] at he; obtain ⟨l, _, hc, rfl, rfl⟩ := he; obtain ⟨rfl, vs, h1, h2, h3⟩ := ym H ho hp hc; refine ⟨rfl, .agg vs.toArray, ?_, ⟨vs, rfl, h1⟩⟩; have := run_loadCells_list (P := P) w ⟨p.block, p.base + off.den env, none⟩ vs h3; rw [h2] at this; simp [Instr.loadAt, Instr.sureAddr, loadVar, iY hd, hagg, cb hi, this]
   | false =>
     rw [hagg] at he; simp only [run_bind] at he; obtain ⟨l, _, hc, he⟩ := he; obtain ⟨rfl, vs, h1, h2, h3⟩ := ym H ho hp hc
     match l, he with
     | [y], he =>
       simp only [run_pure] at he; obtain ⟨rfl, rfl⟩ := he; simp only [SV.aD] at h1; obtain ⟨u, r, rfl, hu, rfl⟩ := h1; refine ⟨rfl, _, ?_, hu⟩; have := h3 0 u rfl; rw [cT, Nat.add_zero] at this; simp [Instr.loadAt, Instr.sureAddr, loadVar, iY hd, hagg, this]
     | [], he => exact he.elim
     | _ :: _ :: _, he => exact he.elim
 | dC ks e i j =>
   simp only [SV.Rel] at hx; obtain ⟨b, o, rfl, hrow⟩ := hx; simp only [uj, run_bind, bF, eR] at he; obtain ⟨d, _, ⟨hd, rfl⟩, ti, _, ⟨hi, rfl⟩, he⟩ := he; cases hagg : jz d with
   | true =>
     rw [hagg] at he; simp only [run_bind, ae, run_pure] at he; obtain ⟨l, _, ⟨hc, rfl⟩, rfl, rfl⟩ := he; obtain ⟨vs, h1, h2, h3⟩ := mz hrow hc; refine ⟨rfl, .agg vs.toArray, ?_, ⟨vs, rfl, h1⟩⟩; have := run_loadCells_list (P := P) w ⟨b, o + j, none⟩ vs (fun k v hk => by rw [cT, Nat.add_assoc]; exact uh H (h3 k v hk))
     rw [h2] at this; simp [Instr.loadAt, Instr.sureAddr, loadVar, iY hd, hagg, cb hi, this]
   | false =>
     rw [hagg] at he; simp only [run_bind, ae] at he; obtain ⟨l, _, ⟨hc, rfl⟩, he⟩ := he; obtain ⟨vs, h1, h2, h3⟩ := mz hrow hc
     match l, he with
     | [y], he =>
       simp only [run_pure] at he; obtain ⟨rfl, rfl⟩ := he; simp only [SV.aD] at h1; obtain ⟨u, r, rfl, hu, rfl⟩ := h1; refine ⟨rfl, _, ?_, hu⟩; have := uh H (h3 0 u rfl); rw [Nat.add_zero] at this; simp [Instr.loadAt, Instr.sureAddr, loadVar, iY hd, hagg, this]
     | [], he => exact he.elim
     | _ :: _ :: _, he => exact he.elim
 | _ => exact he.elim
theorem wR (H : az env w0 ρ h w) {t : TypeId} {x r : SV} {v : Value} (hx : x.Rel env ρ v) (he : (uj P t x).bx env h r h') :
    aF P env w0 ρ nm h' w (Instr.loadAt t v) r := by
 obtain ⟨rfl, u, h1, h2⟩ := qJ H hx he; exact aF.same H h1 h2
def putCells (c : Array Value) : Nat -> List Value -> Array Value
 | _, [] => c
 | k, v :: r => putCells (c.setIfInBounds k v) (k + 1) r
theorem ql : ∀ (vs : List Value) (c : Array Value) (k : Nat), (putCells c k vs).size = c.size
 | [], _, _ => rfl
 | v :: r, c, k => by unfold putCells; rw [ql r]; simp
theorem cN : ∀ (vs : List Value) (c : Array Value) (k : Nat), k + vs.length <= c.size ->
    (putCells c k vs).toList = c.toList.take k ++ vs ++ c.toList.drop (k + vs.length)
 | [], c, k, _ => by simp [putCells]
 | v :: r, c, k, hk => by
   simp only [List.length_cons] at hk; unfold putCells; rw [cN r _ _ (by simp; omega)]
   simp only [Array.toList_setIfInBounds, List.length_cons]; have hk' : k < c.toList.length := by simp; omega
   rw [List.take_set, List.drop_set_of_lt (by omega)]
   have h3 : (List.take (k + 1) c.toList).set k v = List.take k c.toList ++ [v] := by
    rw [List.take_succ_eq_append_getElem hk']; have h4 : k = (List.take k c.toList).length := by simp; omega
    conv => lhs; arg 2; rw [h4]
    rw [List.set_append_right _ _ (Nat.le_refl _)]; simp
   rw [h3, show k + 1 + r.length = k + (r.length + 1) by omega]
   simp
theorem Dr {w : World} {b o : Nat} {c : Array Value} {T : TypeId} (hb : w.heap[b]? = some (.cells c T (0, 0))) (v : Value) :
    w.setCell ⟨b, o, none⟩ v = w.bd b (.cells (c.setIfInBounds o v) T (0, 0)) := by
 have cW : b < w.heap.size := (Array.getElem?_eq_some_iff.1 hb).1; have hg : w.heap[b] = .cells c T (0, 0) := (Array.getElem?_eq_some_iff.1 hb).2; unfold World.setCell World.bd
 congr 1
 apply Array.ext_getElem?
 intro i; rw [Array.getElem?_modify, Array.getElem?_setIfInBounds]
 by_cases e : b = i
 ·subst e; simp [cW, hg]
 ·simp [e]
theorem yH (w : World) (b : Nat) (o o' : Obj) : (w.bd b o).bd b o' = w.bd b o' := by
 unfold World.bd; simp
theorem pA {w : World} {b : Nat} {o : Obj} (hb : w.heap[b]? = some o) : w.bd b o = w := by
 have cW : b < w.heap.size := (Array.getElem?_eq_some_iff.1 hb).1; have hg : w.heap[b] = o := (Array.getElem?_eq_some_iff.1 hb).2; unfold World.bd
 have : w.heap.setIfInBounds b o = w.heap := by
  apply Array.ext_getElem?
  intro i; rw [Array.getElem?_setIfInBounds]
  by_cases e : b = i
  ·subst e; simp [cW, hg]
  ·simp [e]
 rw [this]
theorem dE {b off : Nat} {T : TypeId} : ∀ (vs : List Value) (w : World) (c : Array Value) (i : Nat), w.heap[b]? = some (.cells c T (0, 0)) ->
    vs.all (·.oneCell') = true -> off + i + vs.length <= c.size ->
    (storeCells ⟨b, off, none⟩ vs i).run P w = .ok () (w.bd b (.cells (putCells c (off + i) vs) T (0, 0)))
 | [], w, c, i, hb, _, _ => by simp [storeCells, putCells, pA hb]
 | v :: r, w, c, i, hb, h1, h2 => by
   simp only [List.all_cons, Bool.and_eq_true] at h1; simp only [List.length_cons] at h2; have cW : off + i < c.size := by omega
   have hc : w.cell? ⟨b, off + i, none⟩ = some (c[off + i]'cW) := by rw [cell_of hb]; exact Array.getElem?_eq_getElem cW
   have hf : w.frozen? ⟨b, off + i, none⟩ = false := by simp [World.frozen?, hb]
   have hw := bq (o := .cells (c.setIfInBounds (off + i) v) T (0, 0)) hb; have hsz : (c.setIfInBounds (off + i) v).size = c.size := by simp
   have ih := dE (b := b) (off := off) r (w.bd b (.cells (c.setIfInBounds (off + i) v) T (0, 0))) (c.setIfInBounds (off + i) v) (i + 1) hw h1.2 (by rw [hsz]; omega)
   simp only [storeCells, Sem.run_bind, cT, run_store P w _ v _ h1.1, hc, hf, Bool.false_eq_true, if_false, Result.andThen, Dr hb]; rw [ih, yH]; rfl
theorem tI {l xs : List SV} {vs us : List Value} (hl : SV.aD env ρ l vs) (hx : SV.aD env ρ xs us) (j : Nat) :
    SV.aD env ρ (setAt l j xs) (vs.take j ++ us ++ vs.drop (j + us.length)) := by
 unfold setAt; rw [hx.length]; exact ((hl.take j).append hx).append (hl.drop _)
theorem u9 {l : List SV} {vs : List Value} (h1 : l.all SV.one = true) (hr : SV.aD env ρ l vs) : vs.all (·.oneCell') = true := by
 induction l generalizing vs with
 | nil => simp only [SV.aD] at hr; subst hr; rfl
 | cons x l ih =>
   simp only [SV.aD] at hr; obtain ⟨v, r, rfl, hv, hr⟩ := hr; simp only [List.all_cons, Bool.and_eq_true] at h1 ⊢; exact ⟨SV.Gq h1.1 hv, ih h1.2 hr⟩
theorem ou {α : Type} {sz : Nat} : ∀ {l : List (List α)} {k : Nat} {x y : List α}, (∀ t ∈ l, t.length = sz) -> l[k]? = some x -> y.length = sz ->
    (l.set k y).flatten = l.flatten.take (k * sz) ++ y ++ l.flatten.drop (k * sz + sz)
 | [], _, _, _, _, h, _ => by simp at h
 | z :: r, 0, x, y, hl, h, hy => by
   have hz : z.length = sz := hl z (List.mem_cons_self ..); simp [<- hz]
 | z :: r, k + 1, x, y, hl, h, hy => by
   have hz : z.length = sz := hl z (List.mem_cons_self ..); have ih := ou (l := r) (k := k) (x := x) (y := y) (fun t ht => hl t (List.mem_cons_of_mem _ ht)) (by simpa using h) hy
   rw [List.set_cons_succ, List.flatten_cons, ih, List.flatten_cons]; have e1 : (k + 1) * sz = z.length + k * sz := by rw [hz, Nat.succ_mul, Nat.add_comm]
   rw [e1, List.take_append, Nat.add_assoc z.length, List.drop_append]; simp [List.take_of_length_le, List.drop_of_length_le]
theorem dw {α : Type} {sz : Nat} : ∀ {l : List (List α)}, (∀ t ∈ l, t.length = sz) -> l.flatten.length = l.length * sz
 | [], _ => by simp
 | y :: r, h => by
   rw [List.flatten_cons, List.length_append, h y (List.mem_cons_self ..), dw (fun t ht => h t (List.mem_cons_of_mem _ ht)), List.length_cons, Nat.succ_mul, Nat.add_comm]
theorem rO {l xs : List SV} {j : Nat} (h : j + xs.length <= l.length) : (setAt l j xs).length = l.length := by
 unfold setAt; simp; omega
theorem I6 (H : az env w0 ρ h w) {t : TypeId} {x y : SV} {v u : Value} {b : Unit} (hx : x.Rel env ρ v) (hy : y.Rel env ρ u) (he : (qP P t x y).bx env h b h') :
    ∃ w', (Instr.storeAt t v u).run P w = .ok () w' /\ az env w0 ρ h' w' := by
 cases x with
 | ptr n off =>
   simp only [SV.Rel] at hx; obtain ⟨p, hp, rfl⟩ := hx; simp only [qP, run_bind, eR, aq, aU, bD] at he; obtain ⟨i, _, ⟨hi, rfl⟩, _, _, ⟨hsz, rfl⟩, _, _, ⟨hone, rfl⟩, o, _, ⟨ho, rfl⟩, o', h1, hset, rfl⟩ := he; have hobj := H.bk n o ho; have hcells := fL (ot hone) hy; have h1c := u9 hone hcells
   have hlen : u.cells.size = i.size := by
    have := hcells.length; have h2 := Nat.eq_of_beq_eq_true hsz; simp at this; omega
   cases o with
   | cells T cs =>
     cases off with
     | el i s j => simp [setCells, Prog.bx] at hset
     | c j =>
       simp only [setCells, run_bind, aq, run_pure] at hset; obtain ⟨_, _, ⟨hle, rfl⟩, rfl, rfl⟩ := hset; obtain ⟨q, vs, g1, g2, g3, g4, g5, g6⟩ := hobj; obtain rfl : q = p := by rw [hp] at g1; exact (Option.some.inj g1).symm
       have hle' : j + u.cells.size <= vs.length := by
        have := Nat.le_of_ble_eq_true hle; have h2 := g5.length; have h3 := hcells.length; simp at h3; omega
       have hrun := dE (P := P) (off := j) u.cells.toList w vs.toArray 0 g6 h1c (by simpa using hle')
       refine ⟨w.bd q.block (.cells (putCells vs.toArray j u.cells.toList) T (0, 0)), ?_, ?_⟩
       ·simp only [Instr.storeAt, Instr.sureAddr, storeVar, Sem.run_bind, Sem.run_pure, Result.andThen, cb hi, hlen, mg.den, g3, Nat.zero_add, ne_eq, not_true_eq_false, if_false]; exact hrun
       ·refine H.update ho rfl hp rfl ⟨q, _, hp, g2, g3, g4, tI g5 hcells j, ?_⟩; rw [bq g6]
        congr 2
        apply Array.ext'; rw [cN _ _ _ (by simpa using hle')]
   | row T sz len cols tail =>
     cases off with
     | c j => simp [setCells, Prog.bx] at hset
     | el ix s j =>
       simp only [setCells, run_bind, aq, ae, run_pure] at hset; obtain ⟨_, _, ⟨hss, rfl⟩, a, _, ⟨ha, rfl⟩, bb, _, ⟨hb, rfl⟩, _, _, ⟨hab, rfl⟩, xx, _, ⟨hxx, rfl⟩, _, _, ⟨hle, rfl⟩, rfl, rfl⟩ := hset; obtain rfl := Nat.eq_of_beq_eq_true hss; have hab := Nat.le_of_ble_eq_true hab; have hle := Nat.le_of_ble_eq_true hle; obtain ⟨q, vs, rest, g1, g2, g3, g4, ⟨base, tl, rfl, r1, r2, r3, r4, r5⟩, g6, g7⟩ := hobj; obtain rfl : q = p := by rw [hp] at g1; exact (Option.some.inj g1).symm
       have hA := ni (env := env) ha; have hB := ni (env := env) hb; have hbl : base.length = a * sz := by rw [r1, hA]; simp
       have hxxl : xx.length = sz := r4 _ (List.mem_of_getElem? hxx); have hul : u.cells.size = y.cells.length := by have := hcells.length; simpa using this
       have hmul : bb * sz = a * sz + (bb - a) * sz := by rw [<- Nat.add_mul]; congr 1; omega
       have htl : (bb - a) * sz + sz <= tl.length := by
        rw [r3.length, dw r4]; have hk : bb - a < tail.length := (List.getElem?_eq_some_iff.1 hxx).1
        calc (bb - a) * sz + sz = (bb - a + 1) * sz := by rw [Nat.succ_mul]
         _ <= tail.length * sz := Nat.mul_le_mul_right _ hk
       have hfull : ((base ++ tl) ++ rest).toArray.size = (base ++ tl ++ rest).length := by simp
       have hin : (bb * sz + j) + u.cells.toList.length <= (base ++ tl ++ rest).toArray.size := by simp; omega
       have hrun := dE (P := P) (off := bb * sz + j) u.cells.toList w (base ++ tl ++ rest).toArray 0 g7 h1c (by simpa using hin)
       refine ⟨w.bd q.block (.cells (putCells (base ++ tl ++ rest).toArray (bb * sz + j) u.cells.toList) T (0, 0)), ?_, ?_⟩
       ·simp only [Instr.storeAt, Instr.sureAddr, storeVar, Sem.run_bind, Sem.run_pure, Result.andThen, cb hi, hlen, mg.den, hB, Int.toNat_natCast, g3, Nat.zero_add, ne_eq, not_true_eq_false, if_false]; exact hrun
       ·
        have hold := lD (k := bb - a) r4 hxx; have hxrel := ((r3.drop ((bb - a) * sz)).take sz); rw [hold] at hxrel; have hnew := tI hxrel hcells j; have hset2 := ou (k := bb - a) (y := setAt xx j y.cells) r4 hxx (by rw [rO hle, hxxl])
        have hrel := ((r3.take ((bb - a) * sz)).append hnew).append (r3.drop ((bb - a) * sz + sz)); rw [<- hset2] at hrel; refine H.update ho rfl hp rfl ⟨q, base ++ _, rest, hp, g2, g3, g4, ⟨base, _, rfl, r1, r2, hrel, ?_, r5⟩, ?_, ?_⟩
        ·intro t ht; rcases List.mem_or_eq_of_mem_set ht with h | h
         ·exact r4 t h
         ·rw [h, rO hle, hxxl]
        ·rw [<- g6]; simp; omega
        ·rw [bq g7]
         congr 2
         apply Array.ext'; rw [cN _ _ _ hin]; simp only [List.append_assoc]; have e1 : bb * sz + j = base.length + ((bb - a) * sz + j) := by omega
         rw [e1, List.take_append, List.take_of_length_le (by omega), Nat.add_sub_cancel_left, Nat.add_assoc, List.drop_append, List.drop_of_length_le (by omega), Nat.add_sub_cancel_left]
         simp only [List.append_assoc, List.nil_append]
         congr 1
         rw [List.take_append_of_le_length (by omega), List.drop_append_of_le_length (by simp; omega), List.take_add, List.append_assoc]
         congr 1
         rw [List.take_take, Nat.min_eq_left (by omega)]
         congr 1
         congr 1
         rw [List.drop_take, List.drop_drop]; rw [<- List.append_assoc]
         congr 1
         have e3 : (bb - a) * sz + j + u.cells.toList.length = (bb - a) * sz + (j + u.cells.toList.length) := by omega
         have e4 : (bb - a) * sz + sz = ((bb - a) * sz + (j + u.cells.toList.length)) + (sz - (j + u.cells.toList.length)) := by simp; omega
         rw [e3, e4, <- List.drop_drop (l := tl) (j := (bb - a) * sz + (j + u.cells.toList.length)), List.take_append_drop]
   | qW => cases off <;> simp [setCells, Prog.bx] at hset
   | map => cases off <;> simp [setCells, Prog.bx] at hset
   | ar => cases off <;> simp [setCells, Prog.bx] at hset
   | fwd => cases off <;> simp [setCells, Prog.bx] at hset
   | OB => cases off <;> simp [setCells, Prog.bx] at hset
   | k7 => cases off <;> simp [setCells, Prog.bx] at hset
   | pf => cases off <;> simp [setCells, Prog.bx] at hset
   | rA => cases off <;> simp [setCells, Prog.bx] at hset
   | chan => cases off <;> simp [setCells, Prog.bx] at hset
   | dP => cases off <;> simp [setCells, Prog.bx] at hset
   | gone => cases off <;> simp [setCells, Prog.bx] at hset
 | _ => exact he.elim
end
section
variable {P : Program} {env : Env} {w0 : Anchor} {w : World} {ρ : af} {h h' : aL} {nm : Nat}
theorem eB {o : aA} {u : Unit} : (oc nm o).bx env h u h' ↔ ay h nm = some .dP /\ bf h nm o = h' := by
 simp only [oc, run_bind, aU]; constructor
 ·rintro ⟨r, _, ⟨h1, rfl⟩, h2⟩; cases r with
  | dP => exact ⟨h1, by simpa [bD] using h2⟩
  | _ => exact h2.elim
 ·rintro ⟨h1, h2⟩; exact ⟨_, _, ⟨h1, rfl⟩, by simpa [bD] using h2⟩
theorem dU (p : Pl) : ∀ n, ρ n = none -> (ρ.set nm p) n = none \/ n = nm := fun n hn => by
 by_cases e : n = nm
 ·exact .inr e
 ·rw [af.qD e]; exact .inl hn
theorem ca (p : Pl) : (ρ.set nm p) nm = some p := af.xS
theorem Jk (H : az env w0 ρ h w) (hn : ay h nm = some .dP) {T : TypeId} {cs : List SV} {vs : List Value} (hr : SV.aD env ρ cs vs) (cap : Nat) :
    ρ.le (ρ.set nm ⟨w.heap.size, 0, cap, false, none⟩) /\
    az env w0 (ρ.set nm ⟨w.heap.size, 0, cap, false, none⟩) (bf h nm (.cells T cs)) { w with heap := w.heap.push (.cells vs.toArray T (0, 0)) } := by
 have hle := af.mX (H.bk nm .dP hn) ⟨w.heap.size, 0, cap, false, none⟩; refine ⟨hle, H.alloc hn rfl rfl ⟨_, vs, ca _, ?_, rfl, rfl, hr.mono hle, ?_⟩⟩
 ·exact H.below.fresh
 ·simp
theorem sd (H : az env w0 ρ h w) (hn : ay h nm = some .dP) {T : TypeId} {sz : Nat} {len : E} {cols : List ch} {tail : List (List SV)} {vs rest : List Value} {cap : Nat}
    (hr : eH env ρ sz len cols tail vs) (hc : (vs ++ rest).length = cap * sz) :
    ρ.le (ρ.set nm ⟨w.heap.size, 0, cap, false, none⟩) /\
    az env w0 (ρ.set nm ⟨w.heap.size, 0, cap, false, none⟩) (bf h nm (.row T sz len cols tail)) { w with heap := w.heap.push (.cells (vs ++ rest).toArray T (0, 0)) } := by
 have hle := af.mX (H.bk nm .dP hn) ⟨w.heap.size, 0, cap, false, none⟩; refine ⟨hle, H.alloc hn rfl rfl ⟨_, vs, rest, ca _, ?_, rfl, rfl, hr.mono hle, hc, ?_⟩⟩
 ·exact H.below.fresh
 ·simp
theorem G3 (H : az env w0 ρ h w) {t : TypeId} {x r : SV} {v : Value} (hx : x.Rel env ρ v) (he : (Mb P nm t x).bx env h r h') :
    aF P env w0 ρ nm h' w (Instr.box t v) r := by
 simp only [Mb, run_bind, aq, eB, run_pure] at he; obtain ⟨_, _, ⟨hs, rfl⟩, _, _, ⟨hn, rfl⟩, rfl, rfl⟩ := he; obtain ⟨hle, H'⟩ := Jk (T := t) H hn (fL hs hx) 0; refine ⟨_, _, _, ?_, hle, dU _, H', ⟨_, ca _, rfl⟩⟩; simp [Instr.box, newVar, newRow, mg.den]
theorem JU (H : az env w0 ρ h w) {t : TypeId} {r : SV} (he : (do let z <- nQ P t; Mb P nm t z : Prog SV).bx env h r h') :
    aF P env w0 ρ nm h' w (Instr.alloc t true (.tuple #[])) r := by
 simp only [run_bind, gP] at he; obtain ⟨z, _, ⟨hz, rfl⟩, he⟩ := he; obtain ⟨v, h1, h2⟩ := AI (ρ := ρ) (env := env) hz w; obtain ⟨u, w', ρ', g1, g2⟩ := G3 H h2 he; refine ⟨u, w', ρ', ?_, g2⟩; simp only [Instr.alloc, Sem.run_bind, h1, Result.andThen_ok]; simpa [Instr.box] using g1
inductive jq (env : Env) (ρ : af) : List (Nat × SV) -> List (Nat × Value) -> Prop
 | nil : jq env ρ [] []
 | cons {i : Nat} {x : SV} {v : Value} {l : List (Nat × SV)} {r : List (Nat × Value)} : x.Rel env ρ v -> jq env ρ l r -> jq env ρ ((i, x) :: l) ((i, v) :: r)
theorem y5 : ∀ (vs : List Value) (c : Array Value) (off k : Nat), (vs.zipIdx k).foldl (fun (cs : Array Value) (x : Value × Nat) => cs.setIfInBounds (off + x.2) x.1) c = putCells c (off + k) vs
 | [], _, _, _ => rfl
 | v :: r, c, off, k => by
   simp only [List.zipIdx_cons, List.foldl_cons, putCells]; rw [y5 r, Nat.add_assoc]
theorem yQ (vs : Array Value) (c : Array Value) (off : Nat) : vs.zipIdx.foldl (fun (cs : Array Value) (x : Value × Nat) => cs.setIfInBounds (off + x.2) x.1) c = putCells c off vs.toList := by
 rw [<- Array.foldl_toList, Array.toList_zipIdx, y5]; rfl
theorem oG {α : Type} {b : Bool} {x : Option α} {y : α} : (bif b then x else none) = some y ↔ b = true /\ x = some y := by
 cases b <;> simp
theorem w7 {place : Nat -> Option (Nat × Nat)} : ∀ {parts : List (Nat × SV)} {vps : List (Nat × Value)} {cs cs' : List SV} {c : Array Value},
    jq env ρ parts vps -> SV.aD env ρ cs c.toList -> yO parts place cs = some cs' -> ∃ c', Instr.fill place c vps = some c' /\ SV.aD env ρ cs' c'.toList
 | [], _, cs, cs', c, .nil, hc, hf => by simp only [yO] at hf; injection hf with hf; subst hf; exact ⟨c, rfl, hc⟩
 | (i, x) :: l, _, cs, cs', c, .cons (v := v) (r := r) hx hr, hc, hf => by
   simp only [yO] at hf; cases hp : place i with
   | none => rw [hp] at hf; cases hf
   | some q =>
     obtain ⟨off, size⟩ := q; rw [hp] at hf; simp only [oG] at hf; obtain ⟨cJ, hf⟩ := hf; simp only [Bool.and_eq_true] at cJ; obtain ⟨⟨hshut, h1⟩, h2⟩ := cJ
     ·have hcells := fL hshut hx; have hl := hcells.length; have h1 := Nat.eq_of_beq_eq_true h1; have h2 := Nat.le_of_ble_eq_true h2; have hcl := hc.length; simp at hl hcl; have hrel := tI hc hcells off; have bf := cN v.cells.toList c off (by simp; omega)
      have hrel2 : SV.aD env ρ (setAt cs off x.cells) (putCells c off v.cells.toList).toList := by rw [bf]; simpa using hrel
      obtain ⟨c', g1, g2⟩ := w7 hr hrel2 hf; refine ⟨c', ?_, g2⟩; simp only [Instr.fill, hp]; rw [if_neg (by simp; omega)]
      rw [<- yQ] at g1; exact g1
theorem yX : ∀ (fs : List Field) {pl : List (Nat × Nat)}, gQ P fs = some pl -> ∀ w : World, (fs.mapM fun f => Prod.mk f.offset <$> sizeOf f.type).run P w = .ok pl w
 | [], pl, hp, w => by simp only [gQ] at hp; injection hp with hp; subst hp; rfl
 | f :: r, pl, hp, w => by
   simp only [gQ] at hp; cases h1 : kf P f.type with
   | none => rw [h1] at hp; cases hp
   | some s =>
     cases h2 : gQ P r with
     | none => rw [h1, h2] at hp; cases hp
     | some l =>
       rw [h1, h2] at hp; injection hp with hp; subst hp; obtain ⟨i, hi, rfl⟩ := dc h1; simp [List.mapM_cons, cb hi, yX r h2 w]
theorem Ke (H : az env w0 ρ h w) {t : TypeId} {parts : List (Nat × SV)} {vps : Array (Nat × Value)} {r : SV} (hp : jq env ρ parts vps.toList) (he : (FD P t parts).bx env h r h') :
    aF P env w0 ρ nm h' w (Instr.build t vps) r := by
 simp only [FD, run_bind, gP, bF] at he; obtain ⟨z, _, ⟨⟨iz, zv, hz1, hz2, hz3⟩, rfl⟩, d, _, ⟨hd, rfl⟩, he⟩ := he; have hzr : z.Rel env ρ zv := ofVal_ok zv hz3; have hzc := fL (nf hz3) hzr; have hzero := qT hz1 hz2 w; cases d with
 | struct fields =>
   simp only [run_bind, ae, run_pure] at he; obtain ⟨pl, _, ⟨hpl, rfl⟩, cs, _, ⟨hcs, rfl⟩, rfl, rfl⟩ := he; obtain ⟨c', g1, g2⟩ := w7 hp hzc hcs; refine aF.same (v := .agg c') H ?_ ⟨c'.toList, by simp, g2⟩
   have hpl' := yX fields.toList hpl w; have e : (fun i : Nat => pl.toArray[i]?) = (fun i : Nat => pl[i]?) := by funext i; simp
   simp [Instr.build, hzero, aN hd, Array.mapM_eq_mapM_toList, hpl', g1]
 | array n elem =>
   simp only [run_bind, ae, run_pure] at he; obtain ⟨s, _, ⟨hs, rfl⟩, cs, _, ⟨hcs, rfl⟩, rfl, rfl⟩ := he; obtain ⟨i, hi, rfl⟩ := dc hs; obtain ⟨c', g1, g2⟩ := w7 hp hzc hcs; refine aF.same (v := .agg c') H ?_ ⟨c'.toList, by simp, g2⟩
   simp [Instr.build, hzero, aN hd, cb hi, g1]
 | _ => exact he.elim
theorem xe {cs : List SV} {vs : List Value} (hr : SV.aD env ρ cs vs) : ∀ n, SV.aD env ρ (p5 n cs).flatten (List.replicate n vs).flatten
 | 0 => rfl
 | n + 1 => by simp only [p5, List.flatten_cons, List.replicate_succ]; exact hr.append (xe hr n)
theorem DX {α : Type} {cs : List α} : ∀ n, (p5 n cs).length = n
 | 0 => rfl
 | n + 1 => by simp [p5, DX n]
theorem wD {α : Type} {a : α} : ∀ {n : Nat} {x : α}, x ∈ p5 n a -> x = a
 | 0, x, h => by simp [p5] at h
 | n + 1, x, h => by simp only [p5, List.mem_cons] at h; rcases h with h | h; exact h; exact wD h
theorem CS {sz : Nat} : ∀ {parts : List (Nat × SV)} {vps : List (Nat × Value)} {l l' : List (List SV)} {c : Array Value},
    jq env ρ parts vps -> SV.aD env ρ l.flatten c.toList -> (∀ t ∈ l, t.length = sz) -> CX parts sz l = some l' ->
    ∃ c', Instr.fill (fun i => some (i * sz, sz)) c vps = some c' /\ SV.aD env ρ l'.flatten c'.toList /\ (∀ t ∈ l', t.length = sz) /\ l'.length = l.length
 | [], _, l, l', c, .nil, hc, hl, hf => by simp only [CX] at hf; injection hf with hf; subst hf; exact ⟨c, rfl, hc, hl, rfl⟩
 | (i, x) :: ps, _, l, l', c, .cons (v := v) (r := r) hx hr, hc, hl, hf => by
   simp only [CX, oG] at hf; obtain ⟨cJ, hf⟩ := hf; simp only [Bool.and_eq_true] at cJ; obtain ⟨⟨hshut, h1⟩, h2⟩ := cJ
   ·have hcells := fL hshut hx; have hvl := hcells.length; have h1 := Nat.eq_of_beq_eq_true h1; have h2 : i < l.length := by simp [Nat.blt] at h2; omega
    have hcl := hc.length; rw [dw hl] at hcl
    have hin : i * sz + sz <= c.size := by
     have : (i + 1) * sz <= l.length * sz := Nat.mul_le_mul_right _ h2; rw [Nat.succ_mul] at this; simp at hcl; omega
    have hset := ou (y := x.cells) hl (List.getElem?_eq_getElem h2) h1; have hrel := ((hc.take (i * sz)).append hcells).append (hc.drop (i * sz + sz)); rw [<- hset] at hrel; have hvs : v.cells.size = sz := by simp at hvl; omega
    have bf := cN v.cells.toList c (i * sz) (by simp; omega)
    have hrel2 : SV.aD env ρ (l.set i x.cells).flatten (putCells c (i * sz) v.cells.toList).toList := by rw [bf]; simpa [hvs] using hrel
    have hl2 : ∀ t ∈ l.set i x.cells, t.length = sz := fun t ht => by
     rcases List.mem_or_eq_of_mem_set ht with h | h
     ·exact hl t h
     ·rw [h]; exact h1
    obtain ⟨c', g1, g2, g3, g4⟩ := CS hr hrel2 hl2 hf; refine ⟨c', ?_, g2, g3, by rw [g4]; simp⟩
    simp only [Instr.fill]; rw [if_neg (by simp; omega)]
    rw [<- yQ] at g1; exact g1
theorem zC (zero : Array Value) (len : Nat) : ((Array.range (len * zero.size)).map (fun i => zero[i % zero.size]!)).toList = (List.replicate len zero.toList).flatten := by
 apply List.ext_getElem?
 intro i
 have hlen : (List.replicate len zero.toList).flatten.length = len * zero.size := by
  rw [dw (sz := zero.size) (fun t ht => by rw [(List.mem_replicate.1 ht).2]; simp)]; simp
 by_cases hi : i < len * zero.size
 ·have hz : 0 < zero.size := by
    rcases Nat.eq_zero_or_pos zero.size with h | h
    ·rw [h] at hi; simp at hi
    ·exact h
  have hk : i / zero.size < len := (Nat.div_lt_iff_lt_mul hz).2 hi; have hm : i % zero.size < zero.size := Nat.mod_lt _ hz; have hg := lD (l := List.replicate len zero.toList) (sz := zero.size) (k := i / zero.size) (x := zero.toList) (fun t ht => by rw [(List.mem_replicate.1 ht).2]; simp) (by simp [hk])
  have h2 : (List.take zero.size (List.drop (i / zero.size * zero.size) (List.replicate len zero.toList).flatten))[i % zero.size]? = some zero[i % zero.size] := by rw [hg]; simp [hm]
  obtain ⟨h3, _⟩ := dx h2; rw [Nat.mul_comm, Nat.div_add_mod] at h3; rw [h3]; simp [hi, hm]
 ·rw [List.getElem?_eq_none (by simp; omega), List.getElem?_eq_none (by rw [hlen]; omega)]
theorem xR (H : az env w0 ρ h w) {t : TypeId} {len : Nat} {parts : List (Nat × SV)} {vps : Array (Nat × Value)} {r : SV} (hp : jq env ρ parts vps.toList)
    (he : (oL P nm t len parts).bx env h r h') : aF P env w0 ρ nm h' w (Instr.buildSlice t len vps) r := by
 simp only [oL, run_bind, bF] at he; obtain ⟨d, _, ⟨hd, rfl⟩, he⟩ := he; cases d with
 | slice elem =>
   simp only [run_bind, ae, aq, gP, eB, run_pure] at he; obtain ⟨sz, _, ⟨hsz, rfl⟩, _, _, ⟨h0, rfl⟩, _, _, ⟨hbig, rfl⟩, z, _, ⟨⟨iz, zv, hz1, hz2, hz3⟩, rfl⟩, _, _, ⟨hzl, rfl⟩, l, _, ⟨hl, rfl⟩, _, _, ⟨hn, rfl⟩, rfl, rfl⟩ := he; obtain ⟨i, hi, rfl⟩ := dc hsz; have h0 : 0 < i.size := by simp [Nat.blt] at h0; omega
   have hbig := Nat.le_of_ble_eq_true hbig; have hzl := Nat.eq_of_beq_eq_true hzl; have hzr : z.Rel env ρ zv := ofVal_ok zv hz3; have hzc := fL (nf hz3) hzr; have hzs : zv.cells.size = i.size := by have := hzc.length; simp at this; omega
   have hrep := xe hzc len; have hmod := zC zv.cells len; rw [hzs] at hmod
   obtain ⟨c', g1, g2, g3, g4⟩ := CS (c := (Array.range (len * i.size)).map (fun k => zv.cells[k % i.size]!)) hp (by rw [hmod]; exact hrep)
    (fun t ht => by rw [wD ht]; exact hzl) hl
   rw [DX] at g4; have hc'l : c'.size = len * i.size := by have := g2.length; rw [dw g3, g4] at this; simpa using this
   have hrow : eH env ρ i.size (.il 0) [] l c'.toList := ⟨[], c'.toList, rfl, by simp [E.den, Dv.I], fun k hk => by simp [E.den, Dv.I] at hk, g2, g3, by simp⟩
   obtain ⟨hle, H'⟩ := sd (T := elem) (rest := []) (cap := len) H hn hrow (by simp [hc'l])
   refine ⟨.slice (some ⟨w.heap.size, 0, none⟩) len len, _, _, ?_, hle, dU _, H', ⟨_, some ⟨w.heap.size, 0, none⟩, ca _, ?_, ?_, ?_, ?_, Int.le_refl 0⟩⟩
   ·by_cases hlz : len = 0
    ·subst hlz; have hr0 : ∀ f : Nat -> Value, (Array.range (0 * i.size)).map f = #[] := fun f => by apply Array.eq_empty_of_size_eq_zero; simp
     rw [hr0] at g1; simp only [Instr.buildSlice, Sem.run_bind, aN hd, cb hi, Result.andThen_ok, Nat.zero_mul, if_true]; rw [if_neg (by decide)]
     have hr1 : ∀ f : Nat -> Value, (Array.range 0).map f = #[] := fun f => by apply Array.eq_empty_of_size_eq_zero; simp
     simp only [Sem.run_bind, Result.andThen_ok, Sem.run_pure, hr1, g1, newRow, run_newObj]; simp
    ·have hnz : len * i.size ≠ 0 := Nat.mul_ne_zero hlz (by omega)
     simp only [Instr.buildSlice, Sem.run_bind, aN hd, cb hi, Result.andThen_ok, if_neg hnz]; rw [if_neg (by omega)]
     simp only [Sem.run_bind, qT hz1 hz2, Result.andThen_ok, Sem.run_pure, hzs, g1, newRow, run_newObj]; simp
   ·simp [E.den, Dv.I]
   ·simp
   ·simp [E.den, Dv.I]
   ·simp [E.den, Dv.I]
 | _ => exact he.elim
end
end Go.Sx
