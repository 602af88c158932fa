/-
  A HEAP: many are added: what that has to show.
-/
import Derived.Test.YtdlppkhmmclipaaGreatSxHrB
import Derived.Test.YtdlppkhmmclipaaGreatSxMLoopH
import Derived.Test.YtdlppkhmmclipaaGreatSxHrA
import Derived.Test.YtdlppkhmmclipaaGreatSxMLoop
namespace Go.Proofs.YtdlppkhmmclipaaGreat.sxObj
open Go.Sx Go.RowKit Go.Proofs.YtdlppkhmmclipaaGreat
set_option linter.unusedVariables false
set_option linter.unusedSimpArgs false
def fv (h : HM) (k any : Dv) : HM := if 0 <= aP .s k h.I then fo h k any else jH h k any
def mG (l : Dv) (h : HM) : Nat -> HM
 | 0 => h
 | r + 1 => fv (mG l h r) (db l r) (cc (row l r) 0)
def SM (ks I A : Dv) : List Row := ks.T.map fun k => [mh A.T (dM I (cc k 0)).toNat]
def Wb (ks I : Dv) : Prop := ∀ k ∈ ks.T, 0 <= aP .s (cc k 0) I.T /\ 0 <= dM I (cc k 0)
def ct (l : Dv) : Nat -> Nat
 | 0 => 0
 | n + 1 => if cA (cc (row l n) 5).S (cc (row l (ct l n)) 5).S = true then n else ct l n
structure VY where
 S : List Row
 c : Bool
 h : HM
def im (p : Row) : Dv := .s (bj p)
def dK (p : Row) : Dv := .t [nine (du p)]
def Zh (S : List Row) (l : Dv) : Nat -> List Row
 | 0 => S
 | n + 1 => fN (.t (Zh S l n)) (iP (cc (row l n) 0).S (cc (row l n) 1).S) (eight (row l n))
noncomputable def bG (p : Row) (s : VY) : VY × Row :=
 if ((cc p 0).I = 1 \/ (cc p 0).I = 3 \/ (cc p 0).I = 4 \/ (cc p 0).I = 8) /\ (cc p 7).B = true then (s, aW 1 false [] [])
 else if (cc p 0).I = 1 then
  (if s.c = true then (s, aW 5 false [] []) else (⟨fN (.t s.S) (bj p) (du p), s.c, fv s.h (im p) (dK p)⟩, aW 0 false [] []))
 else if (cc p 0).I = 3 then
  (if s.c = true then (s, aW 5 false [] []) else if gF (.t s.S) (bj p) = true then (s, aW 0 false [] []) else (⟨fN (.t s.S) (bj p) (du p), s.c, jH s.h (im p) (dK p)⟩, aW 0 false [] []))
 else if (cc p 0).I = 2 then
  (if s.c = true then (s, aW 5 false [] []) else (⟨Zh s.S (cc p 9) (gN (qb (cc p 9)) (cc p 9).T.length), s.c, mG (.t ((cc p 9).T.map lk)) s.h (gN (qb (cc p 9)) (cc p 9).T.length)⟩, aW (if dec (ep (qb (cc p 9)) (cc p 9).T.length) = true then 0 else 1) false [] []))
 else if (cc p 0).I = 4 then
  (if gF (.t s.S) (bj p) = true then (⟨b8 (.t s.S) (bj p), s.c, jf s.h (gq s.h (im p)).toNat⟩, aW 0 false [] []) else (s, aW 14 false [] []))
 else if (cc p 0).I = 5 then
  (if s.S = [] then (s, aW (if s.c = true then 5 else 99) false [] [])
  else (⟨b8 (.t s.S) (kS (row (.t s.S) (ct (.t s.S) s.S.length))), s.c, tZ s.h⟩, aW 0 false [row (.t s.S) (ct (.t s.S) s.S.length)] []))
 else if (cc p 0).I = 6 then (s, aW 0 false s.S [])
 else if (cc p 0).I = 7 then (s, aW 0 false [] (s.S.map bW))
 else if (cc p 0).I = 8 then
  (if gF (.t s.S) (bj p) = true then (s, aW 0 true [row (.t s.S) (iJ (.t s.S) (bj p))] []) else (s, aW 0 false [] []))
 else if (cc p 0).I = 10 then
  (if gF (.t s.S) (cc p 10).S = true then (s, aW 0 true [row (.t s.S) (iJ (.t s.S) (cc p 10).S)] []) else (s, aW 0 false [] []))
 else if (cc p 0).I = 9 then (⟨s.S, true, s.h⟩, aW 0 false [] [])
 else (s, aW 0 false [] [])
noncomputable def dH (ops : Dv) : Nat -> VY
 | 0 => ⟨[], false, ⟨[], 0, [], []⟩⟩
 | n + 1 => (bG (row ops n) (dH ops n)).1
noncomputable def bL (ops : Dv) : List Row := (List.range ops.T.length).map fun n => (bG (row ops n) (dH ops n)).2
def qhf (l : Dv) (j : Nat) : Prop := iD (du (row l j)) /\ ew (cc (row l j) 9).T /\ (cc (row l j) 9).T.length <= 20
def gH (l : Dv) : Prop := ep (qhf l) l.T.length /\ l.T.length <= 2000
def vS (d : Dv) : HM := ⟨(ar d 0).T, (ar d 1).I.toNat, (ar d 2).T, (ar d 3).T⟩
noncomputable def adr (c : Nat) (d : Dv) : Dv :=
 match c with
 | 300 => .t (SM (ar d 0) (ar d 1) (ar d 2))
 | 301 => .b (dec (Wb (ar d 0) (ar d 1)))
 | 302 => .t (mG (ar d 4) (vS d) (ar d 5).I.toNat).B
 | 303 => .i (mG (ar d 4) (vS d) (ar d 5).I.toNat).n
 | 304 => .t (mG (ar d 4) (vS d) (ar d 5).I.toNat).I
 | 305 => .t (mG (ar d 4) (vS d) (ar d 5).I.toNat).A
 | 308 => .b (dec (gk (vS d)))
 | 310 => .t (dH (ar d 0) (ar d 1).I.toNat).h.B
 | 311 => .i (dH (ar d 0) (ar d 1).I.toNat).h.n
 | 312 => .t (dH (ar d 0) (ar d 1).I.toNat).h.I
 | 313 => .t (dH (ar d 0) (ar d 1).I.toNat).h.A
 | 314 => .b (dH (ar d 0) (ar d 1).I.toNat).c
 | 315 => .t (bL (ar d 0))
 | 316 => .b (dec (gH (ar d 0)))
 | 317 => .t (dH (ar d 0) (ar d 0).T.length).h.A
 | 318 => .i (ct (ar d 0) (ar d 0).T.length : Nat)
 | 319 => .i (ct (ar d 0) (ar d 1).I.toNat : Nat)
 | 320 => .t (dH (ar d 0) (ar d 1).I.toNat).S
 | 321 => .t (Zh (ar d 0).T (ar d 1) (ar d 2).I.toNat)
 | _ => .i 0
def OJ (o : Env) : Prop := ∀ c d, 300 <= c -> c < 330 -> o.uf c d = adr c d
theorem OJ.aE {o o' : Env} (h : OJ o) (e : o'.uf = o.uf) : OJ o' := fun c d h1 h2 => by rw [e]; exact h c d h1 h2
theorem OJ.hb {o : Env} (h : OJ o) : (∀ d, o.uf 300 d = .t (SM (ar d 0) (ar d 1) (ar d 2))) /\ (∀ d, o.uf 301 d = .b (dec (Wb (ar d 0) (ar d 1)))) /\ (∀ d, o.uf 302 d = .t (mG (ar d 4) (vS d) (ar d 5).I.toNat).B) /\ (∀ d, o.uf 303 d = .i (mG (ar d 4) (vS d) (ar d 5).I.toNat).n) /\
    (∀ d, o.uf 304 d = .t (mG (ar d 4) (vS d) (ar d 5).I.toNat).I) /\ (∀ d, o.uf 305 d = .t (mG (ar d 4) (vS d) (ar d 5).I.toNat).A) /\ (∀ d, o.uf 308 d = .b (dec (gk (vS d)))) :=
 ⟨fun d => h 300 d (by decide) (by decide), fun d => h 301 d (by decide) (by decide), fun d => h 302 d (by decide) (by decide), fun d => h 303 d (by decide) (by decide), fun d => h 304 d (by decide) (by decide), fun d => h 305 d (by decide) (by decide), fun d => h 308 d (by decide) (by decide)⟩
theorem OJ.hp {o : Env} (h : OJ o) : (∀ d, o.uf 310 d = .t (dH (ar d 0) (ar d 1).I.toNat).h.B) /\ (∀ d, o.uf 311 d = .i (dH (ar d 0) (ar d 1).I.toNat).h.n) /\ (∀ d, o.uf 312 d = .t (dH (ar d 0) (ar d 1).I.toNat).h.I) /\ (∀ d, o.uf 313 d = .t (dH (ar d 0) (ar d 1).I.toNat).h.A) /\
    (∀ d, o.uf 314 d = .b (dH (ar d 0) (ar d 1).I.toNat).c) /\ (∀ d, o.uf 315 d = .t (bL (ar d 0))) /\ (∀ d, o.uf 316 d = .b (dec (gH (ar d 0)))) /\ (∀ d, o.uf 317 d = .t (dH (ar d 0) (ar d 0).T.length).h.A) /\
    (∀ d, o.uf 318 d = .i (ct (ar d 0) (ar d 0).T.length : Nat)) /\ (∀ d, o.uf 319 d = .i (ct (ar d 0) (ar d 1).I.toNat : Nat)) /\ (∀ d, o.uf 320 d = .t (dH (ar d 0) (ar d 1).I.toNat).S) /\ (∀ d, o.uf 321 d = .t (Zh (ar d 0).T (ar d 1) (ar d 2).I.toNat)) :=
 ⟨fun d => h 310 d (by decide) (by decide), fun d => h 311 d (by decide) (by decide), fun d => h 312 d (by decide) (by decide), fun d => h 313 d (by decide) (by decide), fun d => h 314 d (by decide) (by decide), fun d => h 315 d (by decide) (by decide), fun d => h 316 d (by decide) (by decide), fun d => h 317 d (by decide) (by decide), fun d => h 318 d (by decide) (by decide), fun d => h 319 d (by decide) (by decide), fun d => h 320 d (by decide) (by decide), fun d => h 321 d (by decide) (by decide)⟩
theorem LQ {l : List Row} {x : Row} : (jB .s l x).length <= l.length + 1 := by
 unfold jB; split
 ·rw [List.length_set]; omega
 ·rw [List.length_append]; exact Nat.le_refl _
theorem x9 {l : List Row} {k : Dv} : (nW .s l k).length <= l.length := by
 unfold nW; split
 ·exact (List.eraseIdx_sublist ..).length_le
 ·exact Nat.le_refl _
structure aak (h h' : HM) (m : Nat) : Prop where
 n : h'.n <= h.n + m
 b : h'.B.length <= h.B.length + m
 i : h'.I.length <= h.I.length + m
 a : h'.A.length <= h.A.length + m
theorem Nw {h : HM} {k any : Dv} (v : gk h) (hc : jr any k) : gk (fv h k any) /\ (∀ x, (fv h k any).mem x ↔ x = row any 0 \/ (h.mem x /\ (kO x).toList ≠ k.S.toList)) /\ aak h (fv h k any) 1 := by
 have hn := v.c.dJ.n; unfold fv; split
 ·rename_i hh; obtain ⟨a, b, c, d, e, f, _⟩ := ow v hh hc; exact ⟨a, b, by omega, by omega, by rw [f]; omega, by omega⟩
 ·rename_i hh; obtain ⟨a, b, c, d, e, f⟩ := Qk v hh hc; refine ⟨a, fun x => (b x).trans ⟨fun q => q.elim .inl fun q => .inr ⟨q, fun e2 => hh ?_⟩, fun q => q.elim .inl fun q => .inr q.1⟩, by omega, by omega, by rw [f]; exact LQ, by omega⟩
  obtain ⟨i, hi, q⟩ := q; obtain ⟨r, hr, e3⟩ := ed.1 (v.c.dJ.k i hi); refine ed.2 ⟨r, hr, e3.trans ?_⟩; rw [<- e2, <- q]; exact (v.c.k i hi).symm
theorem sE {l : Dv} {r : Nat} (h1 : qa l r) (h2 : Qf (cc (jD l r) 0) (cc (jD l r) 1) (cc (jD l r) 4)) : jr (cc (row l r) 0) (db l r) := ⟨h1, h2, rfl⟩
theorem Ta {l : Dv} {h : HM} (v : gk h) (hl : Aq l) : ∀ r, r <= l.T.length -> (∀ j, j < r -> qa l j) -> gk (mG l h r) /\ aak h (mG l h r) r
 | 0, _, _ => ⟨v, Nat.le_refl _, Nat.le_refl _, Nat.le_refl _, Nat.le_refl _⟩
 | r + 1, hr, hq => by
   obtain ⟨a, b⟩ := Ta v hl r (by omega) fun j hj => hq j (by omega)
   obtain ⟨c, _, d⟩ := Nw a (sE (hq r (by omega)) (hl r (by omega)))
   have := b.n; have := b.b; have := b.i; have := b.a; have := d.n; have := d.b; have := d.i; have := d.a; exact ⟨c, by show (fv _ _ _).n <= _; omega, by show (fv _ _ _).B.length <= _; omega, by show (fv _ _ _).I.length <= _; omega, by show (fv _ _ _).A.length <= _; omega⟩
structure Rel (S : List Row) (h : HM) : Prop where
 a : ∀ x ∈ S, ∃ y, h.mem y /\ eight y = x
 b : ∀ y, h.mem y -> eight y ∈ S
theorem nM {S : List Row} (g : Good S) {x : Row} (hx : x ∈ S) : kl x = (kO x).toList := by
 unfold kl kS; rw [g.g x hx]; rfl
theorem z6 {S : List Row} {h : HM} (g : Good S) (r : Rel S h) (v : gk h) {k : Dv} : 0 <= aP .s k h.I ↔ ∃ x ∈ S, kl x = k.S.toList := by
 constructor
 ·intro hh; obtain ⟨i, hi, hk, _⟩ := ye v.c hh; have hm := r.b _ ⟨i, hi, rfl⟩; refine ⟨_, hm, ?_⟩; rw [nM g hm, <- hk, <- v.c.k i hi]; rfl
 ·rintro ⟨x, hx, e⟩; obtain ⟨y, ⟨i, hi, q⟩, rfl⟩ := r.a x hx; obtain ⟨z, hz, q2⟩ := ed.1 (v.c.dJ.k i hi); refine ed.2 ⟨z, hz, q2.trans ?_⟩; rw [<- e, nM g hx]; have := v.c.k i hi; rw [q] at this; exact this.symm
theorem eT {S : List Row} {h : HM} (g : Good S) (r : Rel S h) (v : gk h) {k : ByteArray} : 0 <= aP .s (.s k) h.I ↔ gF (.t S) k = true := by
 rw [z6 g r v]; constructor
 ·rintro ⟨x, hx, e⟩
  by_cases hq : gF (.t S) k = true
  ·exact hq
  ·exfalso; rcases rT (k := k) x hx with q | q | q
   ·exact lh (nv q) e
   ·have hx2 := hx; rw [<- List.take_append_drop (iJ (.t S) k) S] at hx2; rcases List.mem_append.1 hx2 with q2 | q2
    ·exact lh (nv q2) e
    ·have hu : Kq S k = iJ (.t S) k := by unfold Kq; rw [if_neg hq]
     rw [<- hu] at q2; exact lh (jT g.i q2) e.symm
   ·exact lh (jT g.i q) e.symm
 ·intro q; obtain ⟨hl, e⟩ := xr q; exact ⟨_, List.getElem_mem hl, e⟩
theorem Q0 {S : List Row} {h h' : HM} (g : Good S) (r : Rel S h) {k : ByteArray} {o z : Row} (hz : eight z = o) (hm : ∀ x, h'.mem x ↔ x = z \/ (h.mem x /\ (kO x).toList ≠ k.toList)) : Rel (fN (.t S) k o) h' := by
 constructor
 ·intro x hx; rcases (mI g.i).1 hx with rfl | ⟨hx, hne⟩
  ·exact ⟨z, (hm z).2 (.inl rfl), hz⟩
  ·obtain ⟨y, hy, e⟩ := r.a x hx; refine ⟨y, (hm y).2 (.inr ⟨hy, ?_⟩), e⟩; rw [nM g hx, <- e] at hne; exact hne
 ·intro y hy; rcases (hm y).1 hy with rfl | ⟨hy, hne⟩
  ·rw [hz]; exact (mI g.i).2 (.inl rfl)
  ·have hx := r.b y hy; refine (mI g.i).2 (.inr ⟨hx, ?_⟩); rw [nM g hx]; exact hne
theorem Px {S : List Row} {h h' : HM} (g : Good S) (r : Rel S h) {k : ByteArray} (hm : ∀ x, h'.mem x ↔ h.mem x /\ (kO x).toList ≠ k.toList) : Rel (b8 (.t S) k) h' := by
 constructor
 ·intro x hx; obtain ⟨hx, hne⟩ := (fO g.i).1 hx; obtain ⟨y, hy, e⟩ := r.a x hx; refine ⟨y, (hm y).2 ⟨hy, ?_⟩, e⟩; rw [nM g hx, <- e] at hne; exact hne
 ·intro y hy; obtain ⟨hy, hne⟩ := (hm y).1 hy; have hx := r.b y hy; refine (fO g.i).2 ⟨hx, ?_⟩; rw [nM g hx]; exact hne
theorem pe {l : Dv} : ∀ n, 0 < n -> ct l n < n
 | n + 1, _ => by
   unfold ct; split
   ·exact Nat.lt_succ_self n
   ·rcases Nat.eq_zero_or_pos n with q | q
    ·subst q; exact Nat.lt_succ_self _
    ·exact Nat.lt_succ_of_lt (pe n q)
theorem s5 {S : List Row} (g : Good S) : ∀ n, n <= S.length -> ∀ j, j < n -> kg (row (.t S) j) (row (.t S) (ct (.t S) n)) = false
 | n + 1, hn, j, hj => by
   have ih := s5 g n (by omega)
   unfold ct; split
   ·rename_i hb; rw [qu, decide_eq_true_eq] at hb; rcases Nat.lt_or_ge j n with q | q
    ·have h1 := ih j q; rw [<- Bool.not_eq_true, mW] at h1 ⊢; intro h2
     have cW : (cc (row (.t S) n) 5).S.toList < (cc (row (.t S) j) 5).S.toList := by
      rcases UO (cc (row (.t S) j) 5).S.toList (cc (row (.t S) (ct (.t S) n)) 5).S.toList with p | p | p
      ·exact absurd (.inl p) h1
      ·rw [p]; exact hb
      ·exact List.lt_trans hb p
     rcases h2 with h2 | ⟨h2, _⟩
     ·exact List.lt_asymm cW h2
     ·rw [h2] at cW; exact List.lt_irrefl _ cW
    ·have : j = n := by omega
     rw [this]; exact irr jV _
   ·rename_i hb; rcases Nat.lt_or_ge j n with q | q
    ·exact ih j q
    ·have e : j = n := by omega
     subst e; rcases Nat.eq_zero_or_pos j with p | p
     ·subst p; exact irr jV _
     ·rw [Bool.not_eq_true, qu, decide_eq_false_iff_not] at hb; rw [<- Bool.not_eq_true, mW]; rintro (h2 | ⟨_, h2⟩)
      ·exact hb h2
      ·have hl := pe (l := .t S) j p; have h3 := List.pairwise_iff_getElem.1 g.i _ _ (show ct (.t S) j < S.length by omega) (show j < S.length by omega) hl
       have e1 := hZ (l := .t S) (show ct (.t S) j < S.length by omega)
       have e2 := hZ (l := .t S) (show j < S.length by omega)
       have h3 : (kl (row (.t S) (ct (.t S) j))) < (kl (row (.t S) j)) := by rw [e1, e2]; exact h3
       rw [nM g (fS (d := .t S) (show ct (.t S) j < S.length by omega)), nM g (fS (d := .t S) (show j < S.length by omega))] at h3
       exact List.lt_asymm h3 h2
theorem xU {S : List Row} {h : HM} (g : Good S) (r : Rel S h) (v : gk h) (h0 : 0 < h.n) (hm : ∀ k, k < h.n -> kg (h.ob k) (h.ob 0) = false) : eight (h.ob 0) = row (.t S) (ct (.t S) S.length) /\ 0 < S.length := by
 have hx := r.b _ ⟨0, h0, rfl⟩; have hS : 0 < S.length := List.length_pos_of_mem hx; refine ⟨?_, hS⟩; have hl := pe (l := .t S) S.length hS; have hy : row (.t S) (ct (.t S) S.length) ∈ S := fS (d := .t S) hl; obtain ⟨y, ⟨i, hi, q⟩, e⟩ := r.a _ hy; obtain ⟨n, hn, en⟩ := mem_row (d := .t S) hx; have h1 := s5 g S.length (Nat.le_refl _) n hn; rw [en, <- e] at h1; have h2 := hm i hi; rw [q] at h2; have h1 : kg (h.ob 0) y = false := h1; rw [<- e]
 have hk : (kO (h.ob 0)).toList = (kO y).toList := by
  rw [<- Bool.not_eq_true, mW] at h1 h2; rcases UO (cc (h.ob 0) 5).S.toList (cc y 5).S.toList with p | p | p
  ·exact absurd (.inl p) h1
  ·rcases UO (kO (h.ob 0)).toList (kO y).toList with s | s | s
   ·exact absurd (.inr ⟨p, s⟩) h1
   ·exact s
   ·exact absurd (.inr ⟨p.symm, s⟩) h2
  ·exact absurd (.inl p) h2
 have hi0 : 0 = i := v.c.d 0 i h0 hi (by rw [<- v.c.k 0 h0, <- v.c.k i hi, q]; exact hk)
 subst hi0; rw [q]
theorem lI {S : List Row} {h : HM} (r : Rel S h) : S = [] ↔ h.n = 0 := by
 constructor
 ·intro e; rcases Nat.eq_zero_or_pos h.n with q | q
  ·exact q
  ·have := r.b _ ⟨0, q, rfl⟩; rw [e] at this; cases this
 ·intro e; cases S with
  | nil => rfl
  | cons x l =>
    obtain ⟨y, ⟨i, hi, _⟩, _⟩ := r.a x (List.mem_cons_self ..); omega
structure zw (S : List Row) (h : HM) (m : Nat) : Prop where
 g : Good S
 o : ew S
 l : S.length <= m
 v : gk h
 r : Rel S h
 n : h.n <= m
 b : h.B.length <= m
 i : h.I.length <= m
 a : h.A.length <= m
theorem zw.up {S : List Row} {h : HM} {m m' : Nat} (G : zw S h m) (e : m <= m') : zw S h m' :=
 ⟨G.g, G.o, Nat.le_trans G.l e, G.v, G.r, Nat.le_trans G.n e, Nat.le_trans G.b e, Nat.le_trans G.i e, Nat.le_trans G.a e⟩
theorem zw.nil : zw [] ⟨[], 0, [], []⟩ 0 := by
 have no : ∀ {P : Prop} {i : Nat}, i < (⟨[], 0, [], []⟩ : HM).n -> P := fun q => absurd q (Nat.not_lt_zero _); refine ⟨Mq, (fun _ q => by cases q), Nat.le_refl _, ⟨⟨⟨Nat.le_refl _, fun _ q => no q, fun _ q => no q, fun _ q => no q, fun _ q => no q, fun _ q => no q⟩, fun _ _ q => no q, KO, (fun _ q => by cases q), fun _ _ q => no q, fun _ q => no q, fun _ q => no q⟩, fun _ _ q => no q⟩, ⟨(fun _ q => by cases q), fun _ ⟨_, q, _⟩ => no q⟩, Nat.le_refl _, Nat.le_refl _, Nat.le_refl _, Nat.le_refl _⟩
theorem zw.add {S : List Row} {h : HM} {m : Nat} (G : zw S h m) {k : ByteArray} {x : Row} {any : Dv} (hc : jr any (.s k)) (he : eight (row any 0) = x) : zw (fN (.t S) k x) (fv h (.s k) any) (m + 1) := by
 obtain ⟨v, hm, w⟩ := Nw G.v hc; have hb : bad x = false := by rw [<- he]; exact hc.b
 have hk : kl x = k.toList := by
  unfold kl kS; rw [hb]; rw [<- he]; exact hc.k
 have hx : eight x = x := by rw [<- he]; rfl
 have hl := @Of (.t S) k x; simp only [OQ] at hl; have := G.l; have := G.n; have := G.b; have := G.i; have := G.a; have := w.n; have := w.b; have := w.i; have := w.a; refine ⟨IE G.g hk hb hx, ?_, by omega, v, Q0 G.g G.r he hm, by omega, by omega, by omega, by omega⟩
 intro y hy; rcases (mI G.g.i).1 hy with rfl | hy
 ·rw [<- he]; exact hc.o
 ·exact G.o y hy.1
theorem Ly {h : HM} {m : Nat} : (dQ h m).B = h.B /\ (dQ h m).n = m /\ (dQ h m).I.length <= h.I.length /\ (dQ h m).A = h.A := ⟨rfl, rfl, x9, rfl⟩
theorem Po {h : HM} {i : Nat} (v : gk h) (hi : i < h.n) : (jf h i).n = h.n - 1 /\ (jf h i).B.length = h.B.length /\ (jf h i).I.length <= h.I.length /\ (jf h i).A.length = h.A.length := by
 have hn := v.c.dJ.n; unfold jf; split
 ·exact ⟨rfl, rfl, x9, rfl⟩
 ·rename_i e; have hm : h.n - 1 < h.n := by omega
  have c := fu v.c hi hm; have hb : h.n - 1 < h.B.length := by omega
  have hpd : cz kg (bm h i (h.n - 1)).ob (h.n - 1) i := by
   rw [jo (by omega) hb]
   refine dA jV ?_ (by omega)
   rw [show h.n - 1 + 1 = h.n by omega]
   exact v.hp
  have hsn : (bm h i (h.n - 1)).n = h.n := rfl; obtain ⟨f1, f2, f3, f4, f5, f6, f7⟩ := Gu c (show i < h.n - 1 by omega) (by rw [hsn]; omega) hpd
  have hbl : (bm h i (h.n - 1)).B.length = h.B.length := fm; have hal : (bm h i (h.n - 1)).A.length = h.A.length := jY; refine ⟨rfl, f6.trans hbl, ?_, f5.trans hal⟩; refine Nat.le_trans (Ly (h := gx _ _ _)).2.2.1 ?_; rw [f4]; exact Nat.le_refl _
theorem Qo {h : HM} (v : gk h) (h0 : 0 < h.n) : (tZ h).n = h.n - 1 /\ (tZ h).B.length = h.B.length /\ (tZ h).I.length <= h.I.length /\ (tZ h).A.length = h.A.length := by
 have hl := FA (B := .t (bm h 0 (h.n - 1)).B) (I := .t (bm h 0 (h.n - 1)).I) (A := .t (bm h 0 (h.n - 1)).A) (m := h.n - 1) (j := 0) (y8 (bm h 0 (h.n - 1)) (h.n - 1) 0); exact ⟨rfl, hl.1.trans fm, x9, hl.2.trans jY⟩
theorem zw.del {S : List Row} {h h' : HM} {m : Nat} (G : zw S h m) {k : ByteArray} (v : gk h') (hm : ∀ x, h'.mem x ↔ h.mem x /\ (kO x).toList ≠ k.toList) (w : h'.n = h.n - 1 /\ h'.B.length = h.B.length /\ h'.I.length <= h.I.length /\ h'.A.length = h.A.length) : zw (b8 (.t S) k) h' m := by
 have hl := @C5 (.t S) k; simp only [OQ] at hl; obtain ⟨w1, w2, w3, w4⟩ := w; have := G.l; have := G.n; have := G.b; have := G.i; have := G.a; exact ⟨rq G.g, fun y hy => G.o y ((fO G.g.i).1 hy).1, by omega, v, Px G.g G.r hm, by omega, by omega, by omega, by omega⟩
theorem mP {p : Row} (hb : (cc p 7).B = false) (ho : iD (du p)) : jr (dK p) (im p) := ⟨hb, ho, rfl⟩
theorem aeO {h : HM} (c : eF h) {k : Dv} (hh : 0 <= aP .s k h.I) : ∃ i, i < h.n /\ gq h k = i /\ (h.key i).S.toList = k.S.toList := by
 obtain ⟨i, hi, hk, e⟩ := ye c hh; refine ⟨i, hi, ?_, hk⟩; unfold gq; rw [e]; exact congrArg Dv.I (c.p i hi)
theorem GM {S : List Row} {h : HM} {m : Nat} {l : Dv} (G : zw S h m) (hl : ew l.T) : ∀ r, r <= l.T.length -> (∀ j, j < r -> qb l j) -> zw (Zh S l r) (mG (.t (l.T.map lk)) h r) (m + r)
 | 0, _, _ => G
 | r + 1, hr, hq => by
   have g := GM G hl r (by omega) fun j hj => hq j (by omega)
   have e := Fe (l := l) (n := r) (by omega)
   have e1 : cc (row (.t (l.T.map lk)) r) 0 = .t [nine (row l r)] := by rw [nB (by omega)]; rfl
   have e2 : db (.t (l.T.map lk)) r = .s (iP (cc (row l r) 0).S (cc (row l r) 1).S) := by
    unfold db; rw [e]; rfl
   show zw (fN _ _ _) (fv _ (db _ r) (cc _ 0)) _; rw [e2, e1]; exact g.add ⟨hq r (by omega), gw hl (by omega), rfl⟩ rfl
def Og (q : VY × Row) (m : Nat) : Prop := zw q.1.S q.1.h m
theorem hU {c : Prop} [d : Decidable c] {t e : VY × Row} {m : Nat} (h1 : c -> Og t m) (h2 : ¬ c -> Og e m) : Og (if c then t else e) m := by
 cases d with
 | isTrue h => exact h1 h
 | isFalse h => exact h2 h
theorem Qu {p : Row} {s : VY} {m : Nat} (G : zw s.S s.h m) (ho : iD (du p)) (hl : ew (cc p 9).T) (h20 : (cc p 9).T.length <= 20) : zw (bG p s).1.S (bG p s).1.h (m + 20) := by
 have one : m + 1 <= m + 20 := by omega
 show Og (bG p s) _; have same : ∀ r, Og (s, r) (m + 20) := fun _ => G.up (show m <= m + 20 by omega)
 unfold bG; refine hU (fun _ => same _) fun hb => ?_
 have hbad : ∀ q : (cc p 0).I = 1 \/ (cc p 0).I = 3 \/ (cc p 0).I = 4 \/ (cc p 0).I = 8, (cc p 7).B = false := fun q => by
  cases q2 : (cc p 7).B with
  | true => exact absurd ⟨q, q2⟩ hb
  | false => rfl
 refine hU (fun h1 => hU (fun _ => same _) fun _ => (G.add (mP (hbad (.inl h1)) ho) rfl).up one) fun _ => ?_; refine hU (fun h3 => hU (fun _ => same _) fun _ => hU (fun _ => same _) fun hn => ?_) fun _ => ?_
 ·have hn2 : ¬ 0 <= aP .s (Dv.s (bj p)) s.h.I := fun q => hn ((eT G.g G.r G.v).1 q); have := (G.add (mP (hbad (.inr (.inl h3))) ho) rfl).up one; unfold fv at this; rw [if_neg hn2] at this; exact this
 refine hU (fun _ => hU (fun _ => same _) fun _ => ?_) fun _ => ?_
 ·have hg : gN (qb (cc p 9)) (cc p 9).T.length <= (cc p 9).T.length := ln; refine (GM G hl _ hg fun j hj => ?_).up (by omega)
  have q := bP (show j < stop (fun j => !dec (qb (cc p 9) j)) (cc p 9).T.length from hj); rw [Bool.not_eq_false'] at q; exact aw.1 q
 refine hU (fun _ => hU (fun hq => ?_) fun _ => same _) fun _ => ?_
 ·obtain ⟨i, hi, e, hk⟩ := aeO G.v.c ((eT G.g G.r G.v).2 hq); have e : gq s.h (im p) = i := e; show zw _ (jf s.h (gq s.h (im p)).toNat) _; rw [e, Int.toNat_natCast]; obtain ⟨a, b⟩ := Yn G.v hi; refine (G.del a (fun x => ?_) (Po G.v hi)).up (by omega)
  rw [b, hk]; exact Iff.rfl
 refine hU (fun _ => hU (fun _ => same _) fun hS => ?_) fun _ => ?_
 ·have h0 : 0 < s.h.n := by
    rcases Nat.eq_zero_or_pos s.h.n with q | q
    ·exact absurd ((lI G.r).2 q) hS
    ·exact q
  obtain ⟨a, b, c⟩ := LO G.v h0; obtain ⟨e, hS2⟩ := xU G.g G.r G.v h0 c; have hx : row (.t s.S) (ct (.t s.S) s.S.length) ∈ s.S := fS (d := .t s.S) (pe _ hS2)
  have hk : (kS (row (.t s.S) (ct (.t s.S) s.S.length))).toList = (s.h.key 0).S.toList := by
   refine (nM G.g hx).trans ?_; rw [<- e]; exact G.v.c.k 0 h0
  refine (G.del a (fun x => ?_) (Qo G.v h0)).up (by omega)
  rw [b, hk]
 refine hU (fun _ => same _) fun _ => ?_; refine hU (fun _ => same _) fun _ => ?_; refine hU (fun _ => hU (fun _ => same _) fun _ => same _) fun _ => ?_; refine hU (fun _ => hU (fun _ => same _) fun _ => same _) fun _ => ?_; exact hU (fun _ => G.up (show m <= m + 20 by omega)) fun _ => same _
theorem rR {ops : Dv} (hf : gH ops) : ∀ n, n <= ops.T.length -> zw (dH ops n).S (dH ops n).h (20 * n)
 | 0, _ => zw.nil
 | n + 1, hn => by
   obtain ⟨a, b, c⟩ := hf.1 n (by omega)
   exact Qu (rR hf n (by omega)) a b c
section
variable {p : Row} {s : VY}
theorem Qp (h : (cc p 0).I = 1 \/ (cc p 0).I = 3 \/ (cc p 0).I = 4 \/ (cc p 0).I = 8) (hb : (cc p 7).B = true) : bG p s = (s, aW 1 false [] []) := by
 unfold bG; rw [if_pos ⟨h, hb⟩]
theorem OE {p : Row} (hb : (cc p 7).B = false) : ¬ (((cc p 0).I = 1 \/ (cc p 0).I = 3 \/ (cc p 0).I = 4 \/ (cc p 0).I = 8) /\ (cc p 7).B = true) := fun q => by have := q.2; rw [hb] at this; cases this
theorem Jm (h : (cc p 0).I = 1) (hb : (cc p 7).B = false) : bG p s = (if s.c = true then (s, aW 5 false [] []) else (⟨fN (.t s.S) (bj p) (du p), s.c, fv s.h (im p) (dK p)⟩, aW 0 false [] [])) := by
 unfold bG; rw [if_neg (OE hb), if_pos h]
theorem Ye (h : (cc p 0).I = 3) (hb : (cc p 7).B = false) : bG p s = (if s.c = true then (s, aW 5 false [] []) else if gF (.t s.S) (bj p) = true then (s, aW 0 false [] []) else (⟨fN (.t s.S) (bj p) (du p), s.c, jH s.h (im p) (dK p)⟩, aW 0 false [] [])) := by
 unfold bG; rw [if_neg (OE hb), if_neg (by omega), if_pos h]
theorem XG (h : (cc p 0).I = 2) : bG p s = (if s.c = true then (s, aW 5 false [] []) else (⟨Zh s.S (cc p 9) (gN (qb (cc p 9)) (cc p 9).T.length), s.c, mG (.t ((cc p 9).T.map lk)) s.h (gN (qb (cc p 9)) (cc p 9).T.length)⟩, aW (if dec (ep (qb (cc p 9)) (cc p 9).T.length) = true then 0 else 1) false [] [])) := by
 unfold bG; rw [if_neg (by omega), if_neg (by omega), if_neg (by omega), if_pos h]
theorem RJ (h : (cc p 0).I = 4) (hb : (cc p 7).B = false) : bG p s = (if gF (.t s.S) (bj p) = true then (⟨b8 (.t s.S) (bj p), s.c, jf s.h (gq s.h (im p)).toNat⟩, aW 0 false [] []) else (s, aW 14 false [] [])) := by
 unfold bG; rw [if_neg (OE hb), if_neg (by omega), if_neg (by omega), if_neg (by omega), if_pos h]
theorem Fa (h : (cc p 0).I = 5) : bG p s = (if s.S = [] then (s, aW (if s.c = true then 5 else 99) false [] [])
    else (⟨b8 (.t s.S) (kS (row (.t s.S) (ct (.t s.S) s.S.length))), s.c, tZ s.h⟩, aW 0 false [row (.t s.S) (ct (.t s.S) s.S.length)] [])) := by
 unfold bG; rw [if_neg (by omega), if_neg (by omega), if_neg (by omega), if_neg (by omega), if_neg (by omega), if_pos h]
theorem NC (h : (cc p 0).I = 6) : bG p s = (s, aW 0 false s.S []) := by
 unfold bG; rw [if_neg (by omega), if_neg (by omega), if_neg (by omega), if_neg (by omega), if_neg (by omega), if_neg (by omega), if_pos h]
theorem afN (h : (cc p 0).I = 7) : bG p s = (s, aW 0 false [] (s.S.map bW)) := by
 unfold bG; rw [if_neg (by omega), if_neg (by omega), if_neg (by omega), if_neg (by omega), if_neg (by omega), if_neg (by omega), if_neg (by omega), if_pos h]
theorem aaM (h : (cc p 0).I = 8) (hb : (cc p 7).B = false) : bG p s = (if gF (.t s.S) (bj p) = true then (s, aW 0 true [row (.t s.S) (iJ (.t s.S) (bj p))] []) else (s, aW 0 false [] [])) := by
 unfold bG; rw [if_neg (OE hb), if_neg (by omega), if_neg (by omega), if_neg (by omega), if_neg (by omega), if_neg (by omega), if_neg (by omega), if_neg (by omega), if_pos h]
theorem St (h : (cc p 0).I = 10) : bG p s = (if gF (.t s.S) (cc p 10).S = true then (s, aW 0 true [row (.t s.S) (iJ (.t s.S) (cc p 10).S)] []) else (s, aW 0 false [] [])) := by
 unfold bG; rw [if_neg (by omega), if_neg (by omega), if_neg (by omega), if_neg (by omega), if_neg (by omega), if_neg (by omega), if_neg (by omega), if_neg (by omega), if_neg (by omega), if_pos h]
theorem ac8 (h : (cc p 0).I = 9) : bG p s = (⟨s.S, true, s.h⟩, aW 0 false [] []) := by
 unfold bG; rw [if_neg (by omega), if_neg (by omega), if_neg (by omega), if_neg (by omega), if_neg (by omega), if_neg (by omega), if_neg (by omega), if_neg (by omega), if_neg (by omega), if_neg (by omega), if_pos h]
theorem agx (h : (cc p 0).I < 1 \/ 10 < (cc p 0).I) : bG p s = (s, aW 0 false [] []) := by
 unfold bG; rw [if_neg (by omega), if_neg (by omega), if_neg (by omega), if_neg (by omega), if_neg (by omega), if_neg (by omega), if_neg (by omega), if_neg (by omega), if_neg (by omega), if_neg (by omega), if_neg (by omega)]
end
theorem mJ {ops : Dv} {n : Nat} (h : n < ops.T.length) : row (.t (bL ops)) n = (bG (row ops n) (dH ops n)).2 := by
 unfold row bL; show ((List.map _ _)[n]?).getD [] = _; rw [List.getElem?_map, List.getElem?_range h]; rfl
theorem mD {ops : Dv} : (bL ops).length = ops.T.length := by
 unfold bL; rw [List.length_map, List.length_range]
theorem Ei {l : List Row} {f : Row -> List UInt8} (h : l.Pairwise fun a b => f a ≠ f b) : (l.map f).Nodup := List.pairwise_map.2 h
section
variable {S : List Row} {h : HM}
theorem QF (g : Good S) (r : Rel S h) (v : gk h) (b : List UInt8) : b ∈ h.I.map ky ↔ b ∈ S.map kl := by
 constructor
 ·intro q; obtain ⟨x, hx, e⟩ := List.mem_map.1 q; obtain ⟨y, hy, e2⟩ := (z6 g r v (k := .s ⟨b.toArray⟩)).1 (ed.2 ⟨x, hx, by rw [e]; exact (toList_data ⟨b.toArray⟩).symm⟩)
  exact List.mem_map.2 ⟨y, hy, e2.trans (toList_data _)⟩
 ·intro q; obtain ⟨y, hy, e⟩ := List.mem_map.1 q; obtain ⟨x, hx, e2⟩ := ed.1 ((z6 g r v (k := .s ⟨b.toArray⟩)).2 ⟨y, hy, by rw [e]; exact (toList_data ⟨b.toArray⟩).symm⟩)
  exact List.mem_map.2 ⟨x, hx, e2.trans (toList_data _)⟩
theorem Dh (g : Good S) (r : Rel S h) (v : gk h) : (h.I.map ky).Perm (S.map kl) :=
 (List.perm_ext_iff_of_nodup (Ei v.c.u) (Ei (g.i.imp fun {a b} q => lh q))).2 (QF g r v)
theorem eu (g : Good S) (r : Rel S h) (v : gk h) : eL (h.I.map dg) = S.map bW := by
 rw [<- zi g.i]; unfold eL
 have e1 : (h.I.map dg).map jx = h.I.map ky := by
  rw [List.map_map]; exact List.map_congr_left fun x _ => by cases x <;> exact (toList_data _).symm
 have e2 : (S.map bW).map jx = S.map kl := by
  rw [List.map_map]; exact List.map_congr_left fun r _ => Ch _
 rw [e1, e2, mergeSort_of_perm (Dh g r v)]
theorem jQ (g : Good S) (r : Rel S h) (v : gk h) : h.I.length = S.length := by
 have := (Dh g r v).length_eq; rwa [List.length_map, List.length_map] at this
theorem get_at (g : Good S) (r : Rel S h) (v : gk h) {k : ByteArray} (q : gF (.t S) k = true) : ∃ i, i < h.n /\ gq h (.s k) = i /\ (h.key i).S.toList = k.toList /\ h.slot i = (dM (.t h.I) (.s k)).toNat /\ 0 <= dM (.t h.I) (.s k) /\ (dM (.t h.I) (.s k)).toNat < h.A.length /\
    eight (row (mh h.A (dM (.t h.I) (.s k)).toNat) 0) = row (.t S) (iJ (.t S) k) := by
 obtain ⟨i, hi, hk, e⟩ := ye v.c ((eT g r v).2 q); have hs : h.slot i = (dM (.t h.I) (.s k)).toNat := by rw [e]; rfl
 refine ⟨i, hi, ?_, hk, hs, by rw [e]; exact v.c.dJ.i i hi, by rw [e]; exact v.c.dJ.l i hi, ?_⟩
 ·unfold gq; rw [e]; exact congrArg Dv.I (v.c.p i hi)
 ·have hx := r.b (h.ob i) ⟨i, hi, rfl⟩; have e2 : row (mh h.A (dM (.t h.I) (.s k)).toNat) 0 = h.ob i := by rw [<- hs]; rfl
  rw [e2]; obtain ⟨hl, e3⟩ := xr q; refine HX g.i hl hx ?_; rw [hZ (l := .t S) hl]; refine Eq.trans ?_ e3.symm; rw [nM g hx]; exact (v.c.k i hi).trans hk
theorem Ap (g : Good S) {x : Row} (hx : x ∈ S) {k : ByteArray} (e : kl x = k.toList) : gF (.t S) k = true /\ row (.t S) (iJ (.t S) k) = x := by
 have hq : gF (.t S) k = true := by
  by_cases hq : gF (.t S) k = true
  ·exact hq
  ·exfalso; rcases rT (k := k) x hx with q | q | q
   ·exact lh (nv q) e
   ·have hx2 := hx; rw [<- List.take_append_drop (iJ (.t S) k) S] at hx2; rcases List.mem_append.1 hx2 with q2 | q2
    ·exact lh (nv q2) e
    ·have hu : Kq S k = iJ (.t S) k := by unfold Kq; rw [if_neg hq]
     rw [<- hu] at q2; exact lh (jT g.i q2) e.symm
   ·exact lh (jT g.i q) e.symm
 refine ⟨hq, ?_⟩; obtain ⟨hl, e3⟩ := xr hq; refine (HX g.i hl hx ?_).symm; rw [hZ (l := .t S) hl]; exact e.trans e3.symm
theorem PB (g : Good S) (r : Rel S h) (v : gk h) : Wb (.t (S.map bW)) (.t h.I) := fun k hk => by
 obtain ⟨x, hx, rfl⟩ := List.mem_map.1 hk; obtain ⟨q, _⟩ := Ap g hx (k := kS x) rfl; obtain ⟨_, _, _, _, _, a, _⟩ := get_at g r v q; exact ⟨(eT g r v).2 q, a⟩
theorem Kb (g : Good S) (r : Rel S h) (v : gk h) : (SM (.t (S.map bW)) (.t h.I) (.t h.A)).map m0 = S := by
 unfold SM; show ((S.map bW).map _).map _ = _; rw [List.map_map, List.map_map]; refine Eq.trans (List.map_congr_left fun x hx => ?_) (List.map_id S); obtain ⟨q, e⟩ := Ap g hx (k := kS x) rfl; obtain ⟨_, _, _, _, _, _, _, b⟩ := get_at g r v q; exact b.trans e
end
def Av : Nat := 57
def AS : Nat := 54
def F5 : Nat := 56
def AG : Nat := 51
def rC : Nat := 10
def abV : Nat := 114
def Ue (closed B len I A : E) (it : Option Nat := none) : aQ := [(500177, .ar RL Oz A), (8, .row uI 1 (aH B) (bX jl B 0) []), (3, itH I it), (2, .cells tHD [.map 3, .sl 8 1 (.il 0) len, .fn (.func tM) [] [], .fn (.func tS) [] []]), (1, .cells abV [.eh 115 .mS, .ptr 2 (.c 0), .bool closed])]
def Fb : AR := ⟨9, 3, 4, .str, 7749⟩
def IG : aj where
 f := FI; key := 3; N := 21; r := 2202; base := 182000
 js := [4] ++ me 10 18
 hd := fun _ => ⟨[(0, .map 3), (9, .ptr 4 (.c 0)), (3, .sl 5 1 (.il 0) (aH (.v 2202)))], [(500177, .ar RL Oz (.v 7741)), (5, .row uI 1 (aH (.v 2202)) (bX jl (.v 2202) 0) []), (4, .pf 3 .str (.v 2202)), (3, itH (.v 7740) (some 4))], 9, [nk (.v 7740), (.uf 201 (pk [.v 7740]), true)]⟩
 aV := fun _ => [nk (.v 7740), (.uf 201 (pk [.v 7740]), true)]
 app := fun _ => true
 nT := fun m => Nat.beq m 0
 dY := fun _ => .ret 0
 ml := fun m => Nat.beq m 0
 mf := fun _ => []
 hx := fun _ => ⟨[(0, .map 3), (9, .top), (3, .sl 5 1 (.il 0) (aH (.v 7740)))], [(500177, .ar RL Oz (.v 7741)), (5, .rA uI jl (.uf 200 (pk [.v 7740]))), (3, itH (.v 7740) none)], 9, []⟩
 ur := fun _ _ => .ret 0
 oN := fun _ => .exit 0
 bz := [(.bl true, 0)]
 fixed := [3]
 lt := .bl true
 X := dF.none
 fuel := 300; np := 60
 params := [7740, 7741]
def hlF : aa := [nk (.v 7750), (.uf 301 (pk [.v 7750, .v 7751]), true)]
def hlY : aj where
 f := Av; key := 5; N := 52; r := 2203; base := 183000
 js := [5] ++ me 32 51
 hd := fun _ => ⟨[(0, .ptr 1 (.c 0)), (29, .cg jl (.v 7750)), (30, iS (aH (.v 7750))), (3, .sl 14 1 (.il 0) (.v 2203)), (31, iS (.v 2203))],
  (14, .row Lm 1 (.v 2203) (bX aK (.uf 300 (pk [.v 7750, .v 7751, .v 7752])) 0) []) :: Ue (.v 7753) (.v 7754) (.v 7755) (.v 7751) (.v 7752), 20,
  cX (.il 0) (.v 2203) :: cX (.v 2203) (aH (.v 7750)) :: hlF⟩
 aV := fun _ => hlF
 app := fun _ => true
 nT := fun m => Nat.beq m 0
 dY := fun _ => .ret 0
 ml := fun m => Nat.beq m 0
 mf := fun _ => []
 hx := fun _ => ⟨[(0, .ptr 1 (.c 0)), (29, .top), (30, .top), (3, .cg aK (.uf 300 (pk [.v 7750, .v 7751, .v 7752]))), (31, .top)], Ue (.v 7753) (.v 7754) (.v 7755) (.v 7751) (.v 7752), 20, []⟩
 ur := fun _ _ => .ret 0
 oN := fun _ => .exit 0
 bz := [(.bl true, 0)]
 fixed := [1, 2, 3, 8]
 lt := .o2 .lt (.v 2203) (aH (.v 7750))
 X := dF.none.Ba
 fuel := 300; np := 60
 params := [7750, 7751, 7752, 7753, 7754, 7755]
 PR := [(82, 1)]
 yn := [(Lm, aK), (uI, jl)]
def hkY : aj where
 f := AS; key := 5; N := 41; r := 2204; base := 184000
 js := [5] ++ me 32 40
 hd := fun _ => ⟨[(29, .cg jl (.v 7757)), (30, iS (aH (.v 7757))), (3, .sl 8 1 (.il 0) (.v 2204)), (31, iS (.v 2204))],
  [(8, .row uI 1 (.v 2204) (bX jl (.v 7757) 0) [])], 9, cX (.il 0) (.v 2204) :: cX (.v 2204) (aH (.v 7757)) :: [nk (.v 7757)]⟩
 aV := fun _ => [nk (.v 7757)]
 app := fun _ => true
 nT := fun m => Nat.beq m 0
 dY := fun _ => .ret 0
 ml := fun m => Nat.beq m 0
 mf := fun _ => []
 hx := fun _ => ⟨[(29, .top), (30, .top), (3, .cg jl (.v 7757)), (31, .top)], [], 9, []⟩
 ur := fun _ _ => .ret 0
 oN := fun _ => .exit 0
 bz := [(.bl true, 0)]
 fixed := []
 lt := .o2 .lt (.v 2204) (aH (.v 7757))
 X := dF.none
 fuel := 300; np := 60
 params := [7757]
 PR := [(82, 1)]
 yn := [(uI, jl)]
def hwF : aa := [cX (.il 0) (.v 7760), (.o2 .or (.o2 .lt (.il 0) (.v 7760)) (.v 7761), true)]
def hwY : aj where
 f := F5; key := 3; N := 40; r := 2205; base := 185000
 js := me 12 30
 hd := fun _ => ⟨[(0, .ptr 1 (.c 0)), (2, .dO), (3, .dO)], Ue (.v 7761) (.v 7762) (.v 7760) (.v 7763) (.v 7764), 20, cX (.il 0) (.v 2205) :: cX (.v 2205) (.il 0) :: hwF⟩
 aV := fun _ => hwF
 app := fun _ => true
 nT := fun m => Nat.beq m 0
 dY := fun _ => .ret 0
 ml := fun m => Nat.beq m 0
 mf := fun _ => []
 hx := fun n => ⟨[(0, .ptr 1 (.c 0)), (2, .dO), (3, match n with | 1 => .eh Er (.str (.sl [104, 101, 97, 112, 32, 105, 115, 32, 99, 108, 111, 115, 101, 100])) | _ => .dO)], Ue (.v 7761) (.v 7762) (.v 7760) (.v 7763) (.v 7764), 20, []⟩
 ur := fun ex _ => match ex with | .ret => .ret 1 | _ => .ret 0
 oN := fun n => match n with | 1 => .ret | _ => .exit 0
 bz := [(.o2 .aX (.v 7760) (.il 0), 1), (.bl true, 0)]
 fixed := [1, 2, 3, 8]
 lt := .o2 .lt (.v 2205) (.il 0)
 X := dF.none
 fuel := 300; np := 60
 params := [7760, 7761, 7762, 7763, 7764]
 PR := [(76, 1)]
def Pt : SV := .eh Er (.str (.sl M4))
def hbP : List E := [.v 7771, .v 7772, .v 7773, .v 7774, .v 7770]
def TX (r : E) : E := pk (hbP ++ [r])
def Mm : aa := [(.uf 213 (pk [.v 7770]), true), nk (.v 7770), (.uf 308 (pk [.v 7771, .v 7772, .v 7773, .v 7774]), true), cX (aH (.v 7770)) (.il 20), cX (.il 0) (.v 7772), cX (.v 7772) (.il 500000), cX (aH (.v 7771)) (.il 500000), cX (aH (.v 7774)) (.il 500000), cX (aH (.v 7773)) (.il 500000)]
def hbX : jw := ⟨[(tM, ri.bh)], [(fUp, 0, Zk.dB), (Ij, 2, Zo.dB)]⟩
def hbY : aj where
 f := AG; key := 6; N := 99; r := 2206; base := 186000
 js := [6, 7, 8, 9, 10] ++ me 26 99
 hd := fun _ => ⟨[(0, .ptr 1 (.c 0)), (4, .dO), (23, .cg aK (.v 7770)), (24, iS (aH (.v 7770))), (25, iS (.v 2206))],
  Ue (.v 7775) (.uf 302 (TX (.v 2206))) (.uf 303 (TX (.v 2206))) (.uf 304 (TX (.v 2206))) (.uf 305 (TX (.v 2206))), 20,
  cX (.il 0) (.v 2206) :: cX (.v 2206) (.uf 212 (pk [.v 7770])) :: Mm⟩
 aV := fun _ => Mm
 app := fun _ => true
 nT := fun m => Nat.beq m 0
 dY := fun _ => .ret 0
 ml := fun m => Nat.beq m 0
 mf := fun _ => []
 hx := fun n => ⟨[(0, .ptr 1 (.c 0)), (4, match n with | 1 => .eh 149 (.agg [.eh RH (.dC oK (.o2 (.cell 0) (.v 7770) (.uf 212 (pk [.v 7770]))) (.il 0) 0), Pt]) | _ => .dO), (23, .top), (24, .top), (25, .top)],
  Ue (.v 7775) (.uf 302 (TX (.uf 212 (pk [.v 7770])))) (.uf 303 (TX (.uf 212 (pk [.v 7770])))) (.uf 304 (TX (.uf 212 (pk [.v 7770])))) (.uf 305 (TX (.uf 212 (pk [.v 7770])))), 20, []⟩
 ur := fun ex _ => match ex with | .ret => .ret 1 | _ => .ret 0
 oN := fun n => match n with | 1 => .ret | _ => .exit 0
 bz := [(.uf 211 (pk [.v 7770]), 1), (.bl true, 0)]
 fixed := [1, 2, 3]
 lt := .o2 .lt (.v 2206) (.uf 212 (pk [.v 7770]))
 X := hbX.x.Ba
 fuel := 1500; np := 260
 params := [7770, 7771, 7772, 7773, 7774, 7775]
 PR := [(76, 1)]
 yn := [(Lm, aK), (uI, jl)]
 OP := [(7771, 0, 0, [1, 1]), (7772, 0, 0, [1, 1001]), (7773, 0, 0, [1, 0]), (7774, 0, 500177, [])]
def J9 : aJ := .cons (.int .i64) (.cons .str (.cons .str (.cons .str (.cons .str (.cons (.sl gI) (.cons .str (.cons .bool (.cons .bool (.cons (.sl fW) (.cons .str .nil))))))))))
def DW : Nat := 33
def hmA : E := pk [.v 7780, .v 2207]
def TQ : E := .uf 315 (pk [.v 7780])
def DA : aa := [(.uf 316 (pk [.v 7780]), true), cX (aH (.v 7780)) (.il 2000)]
def hmX : jw := ⟨[(kN, ma.bh), (nb, vk.bh), (tM, ri.bh), (iq, iV.bh), (kM, mA.bh), (Ni, GH.bh), (DM, zG 106)],
 [(FI, 3, IG.dB), (Av, 5, hlY.dB), (AS, 5, hkY.dB), (F5, 3, hwY.dB), (AG, 6, hbY.dB), (fUp, 0, Zk.dB), (Ij, 2, Zo.dB)]⟩
def CQ : aj where
 f := rC; key := 4; N := 23; r := 2207; base := 187000
 js := me 7 23
 hd := fun m => ⟨[(0, .cg J9 (.v 7780)), (3, .ptr 1 (.c 0)), (4, match m with | 0 => .cr | _ => .sl 21 6 (.il 0) (.v 2207)), (5, iS (.v 2207))],
  (match m with | 0 => [] | _ => [(21, .row N9 6 (.v 2207) (bX stK TQ 0) [])]) ++ Ue (.uf 314 hmA) (.uf 310 hmA) (.uf 311 hmA) (.uf 312 hmA) (.uf 313 hmA), 30,
  (match m with | 0 => [(.o2 .aX (.v 2207) (.il 0), true)] | _ => [sX (.il 0) (.v 2207)]) ++ cX (.il 0) (.v 2207) :: cX (.v 2207) (aH (.v 7780)) :: DA⟩
 aV := fun _ => DA
 app := fun _ => true
 nT := fun m => Nat.beq m 0
 dY := fun sl => match nth sl 4 with | some .cr => .ret 0 | some (.sl ..) => .ret 1 | _ => .fail
 ml := fun m => Nat.beq m 1
 mf := fun m => match m with | 0 => [(.o2 .aX (.v 2207) (.il 0), true)] | _ => [sX (.il 0) (.v 2207)]
 hx := fun _ => ⟨[(0, .top), (3, .top), (4, .cg stK TQ), (5, .top)], [(500177, .ar RL Oz (.uf 317 (pk [.v 7780])))], 30, []⟩
 ur := fun _ _ => .ret 0
 oN := fun _ => .exit 0
 bz := [(.bl true, 0)]
 fixed := []
 lt := .o2 .lt (.v 2207) (aH (.v 7780))
 X := hmX.x.Ba
 fuel := 3000; np := 400
 params := [7780]
 yn := [(DW, J9), (N9, stK), (sg, fW), (uI, jl), (agB, Zz), (Lm, aK)]
end Go.Proofs.YtdlppkhmmclipaaGreat.sxObj
namespace Go.Proofs.YtdlppkhmmclipaaGreat.sxObj
open Go.Sx
set_option linter.unusedVariables false
set_option maxRecDepth 100000
end Go.Proofs.YtdlppkhmmclipaaGreat.sxObj
namespace Go.Proofs.YtdlppkhmmclipaaGreat.sxObj
open Go.Sx Go.RowKit Go.Proofs.YtdlppkhmmclipaaGreat
set_option linter.unusedVariables false
set_option linter.unusedSimpArgs false
set_option maxRecDepth 100000
set_option maxHeartbeats 4000000
section
variable {o : Env}
end
def Zj (l : Dv) (j : Nat) : Prop := JN (cc (row l j) 1) (cc (row l j) 2) (cc (row l j) 3) (cc (row l j) 4) (cc (row l j) 5) (cc (row l j) 6) /\ sV (cc (row l j) 9) /\ (cc (row l j) 10).S.size <= 2147483647
def vK (l : Dv) : Prop := ep (Zj l) l.T.length /\ l.T.length <= 2147483647
def Zr (l : Dv) (j : Nat) : Prop := 1 <= (cc (row l j) 0).I /\ (cc (row l j) 0).I <= 10 /\ small (cc (row l j) 1) (cc (row l j) 2) (cc (row l j) 3) (cc (row l j) 4) (cc (row l j) 5) (cc (row l j) 6) (cc (row l j) 8) /\ vA (cc (row l j) 9) /\ (cc (row l j) 10).S.size <= 41
def xw (l : Dv) : Prop := ep (Zr l) l.T.length /\ l.T.length <= 80
noncomputable def acX (c : Nat) (d : Dv) : Dv :=
 match c with
 | 330 => .b (dec (¬ ep (Zj (ar d 0)) (ar d 0).T.length))
 | 331 => .i (gN (Zj (ar d 0)) (ar d 0).T.length : Nat)
 | 332 => .b (dec (vK (ar d 0)))
 | 333 => .b (dec (¬ ep (Zr (ar d 0)) (ar d 0).T.length))
 | 334 => .i (gN (Zr (ar d 0)) (ar d 0).T.length : Nat)
 | 335 => .b (dec (xw (ar d 0)))
 | _ => .i 0
def OG (o : Env) : Prop := ∀ c d, 330 <= c -> c < 340 -> o.uf c d = acX c d
theorem OG.aE {o o' : Env} (h : OG o) (e : o'.uf = o.uf) : OG o' := fun c d h1 h2 => by rw [e]; exact h c d h1 h2
theorem OG.all {o : Env} (h : OG o) : (∀ d, o.uf 330 d = .b (dec (¬ ep (Zj (ar d 0)) (ar d 0).T.length))) /\ (∀ d, o.uf 331 d = .i (gN (Zj (ar d 0)) (ar d 0).T.length : Nat)) /\ (∀ d, o.uf 332 d = .b (dec (vK (ar d 0)))) /\
    (∀ d, o.uf 333 d = .b (dec (¬ ep (Zr (ar d 0)) (ar d 0).T.length))) /\ (∀ d, o.uf 334 d = .i (gN (Zr (ar d 0)) (ar d 0).T.length : Nat)) /\ (∀ d, o.uf 335 d = .b (dec (xw (ar d 0)))) :=
 ⟨fun d => h 330 d (by decide) (by decide), fun d => h 331 d (by decide) (by decide), fun d => h 332 d (by decide) (by decide), fun d => h 333 d (by decide) (by decide), fun d => h 334 d (by decide) (by decide), fun d => h 335 d (by decide) (by decide)⟩
def vY : Nat := 7
def qI : Nat := 8
def wi : Nat := 12
def P6 : aj := Ow vY 4 18 2 J9 8 10 ([4] ++ me 11 18) 0 7850 2220 330 331 (⟨[(Kj, Za.bh), (uo, N0.bh)], []⟩ : jw).x
def ON : cK := rD vY [.cg J9 (.v 7851)] [7851] [] 332 [.v 7851] (⟨[], [(vY, 4, P6.dB)]⟩ : jw).x
def JT : aj := Ow qI 2 41 2 J9 5 7 ([4] ++ me 8 38) 0 7852 2221 333 334 (⟨[(lX, Re.bh), (lv, Nk.bh)], []⟩ : jw).x [] [] [] [] [(.uf 332 (pk [.v 7852]), true)]
def PO : cK := rD qI [.cg J9 (.v 7853)] [7853] [(.uf 332 (pk [.v 7853]), true)] 335 [.v 7853] (⟨[], [(qI, 2, JT.dB)]⟩ : jw).x
def Q8 : jw := ⟨[], [(rC, 4, CQ.dB)]⟩
def ZR : cK where
 f := 10
 args := [.cg J9 (.v 7856)]
 params := [7856]
 aV := [(.uf 316 (pk [.v 7856]), true), cX (aH (.v 7856)) (.il 2000)]
 app := fun _ => true
 bz := [(.bl true, 0)]
 kind := fun _ => some 0
 out := fun _ => .cg stK (.uf 315 (pk [.v 7856]))
 X := Q8.x
 fuel := 400; np := 500
 B2 := [(RL, Oz)]
def QZ : cK where
 f := wi
 args := []
 params := []
 aV := []
 app := fun _ => true
 bz := [(.bl true, 0)]
 kind := fun _ => some 0
 out := fun _ => .bool (.bl true)
 X := Q8.x
 fuel := 1000; np := 800
 B2 := [(RL, Oz)]
end Go.Proofs.YtdlppkhmmclipaaGreat.sxObj
namespace Go.Proofs.YtdlppkhmmclipaaGreat.sxObj
open Go.Sx
set_option linter.unusedVariables false
set_option maxRecDepth 100000
abbrev MB : E := .v 7850
abbrev Ov : E := .v 2220
abbrev ou2 : E := .o2 .lt (.il 2147483647) (.o1 .size (eC 10 MB Ov))
abbrev n6 : E := .il 0
abbrev ou4 : E := .uf 139 (eP (eC 9 MB Ov) n6)
abbrev ou5 : E := .uf 136 (eP (eC 1 MB Ov) (eP (eC 2 MB Ov) (eP (eC 3 MB Ov) (eP (eC 4 MB Ov) (eP (eC 5 MB Ov) (eP (eC 6 MB Ov) n6))))))
abbrev ou6 : E := .o2 .lt Ov (.o1 .ab MB)
abbrev ou7 : aa := fT ou5 (fT ou6 [])
abbrev ou8 : E := .uf 330 (eP MB n6)
def KP : List (aa × List Ob) :=
 [(fT ou2 (fT ou4 ou7), oO ou8 []),
  (fF ou2 (fT ou4 ou7), oO (.o2 .lt Ov (.uf 331 (eP MB n6))) []),
  (fF ou4 ou7, oO ou8 []),
  (fF ou5 (fT ou6 []), oO ou8 []),
  (fF ou6 [], oO (.o1 .not ou8) [])]
abbrev ou9 : E := .o2 .lt (.il 2147483647) (.o1 .ab (.v 7851))
abbrev Ds : E := .bl false
abbrev ac3 : E := .uf 332 (eP (.v 7851) n6)
abbrev ae1 : List Ob := oO (.o2 .beq Ds ac3) []
abbrev adV : E := .uf 330 (eP (.v 7851) n6)
def Uh : List (aa × List Ob) :=
 [(fT ou9 [], ae1),
  (fT adV (fF ou9 []), ae1),
  (fF adV (fF ou9 []), oO (.o2 .beq (.bl true) ac3) [])]
abbrev lO : E := .v 7852
abbrev lT : E := .v 2221
abbrev ac6 : E := .o2 .lt (eC 0 lO lT) (.il 1)
abbrev U7 : E := .o2 .lt lT (.o1 .ab lO)
abbrev Nn : E := .uf 333 (eP lO n6)
abbrev Wn : E := .o2 .lt (.il 10) (eC 0 lO lT)
abbrev YO : aa := fF ac6 (fT U7 [])
abbrev aes : E := .o2 .lt (.il 41) (.o1 .size (eC 10 lO lT))
abbrev Pb : E := eP (eC 9 lO lT) n6
abbrev Z4 : E := .uf 150 (eP (eC 1 lO lT) (eP (eC 2 lO lT) (eP (eC 3 lO lT) (eP (eC 4 lO lT) (eP (eC 5 lO lT) (eP (eC 6 lO lT) (eP (eC 7 lO lT) (eP (eC 8 lO lT) n6))))))))
abbrev aeg : aa := fT Z4 (fF Wn YO)
abbrev aa9 : aa := fT (.uf 153 Pb) aeg
abbrev Vr : List Ob := oO (.uf 136 (eP (eC 1 lO lT) (eP (eC 2 lO lT) (eP (eC 3 lO lT) (eP (eC 4 lO lT) (eP (eC 5 lO lT) (eP (eC 6 lO lT) n6))))))) []
abbrev ad9 : List Ob := oO Nn (oO (.uf 139 Pb) Vr)
def NQ : List (aa × List Ob) :=
 [(fT ac6 (fT U7 []), oO Nn []),
  (fT Wn YO, oO Nn []),
  (fT aes aa9, ad9),
  (fF aes aa9, oO (.o2 .lt lT (.uf 334 (eP lO n6))) (oO (.o2 .le (.o2 .add lT (.il 1)) (.il 9223372036854775807)) (oO (.uf 139 Pb) Vr))),
  (fF (.uf 153 Pb) aeg, ad9),
  (fF Z4 (fF Wn YO), oO Nn Vr),
  (fF U7 [], oO (.o1 .not Nn) [])]
abbrev ace : E := .uf 333 (eP (.v 7853) n6)
abbrev abG : E := .uf 335 (eP (.v 7853) n6)
def Ur : List (aa × List Ob) :=
 [(fT ace [], oO (.o2 .beq Ds abG) []),
  (fF ace [], oO (.o2 .beq (.o2 .le (.o1 .ab (.v 7853)) (.il 80)) abG) [])]
abbrev acP : E := eP n6 n6
abbrev M7 : E := eP (.v 7856) acP
def LZ : List (aa × List Ob) :=
 [([], oO (.o2 .beq Ds (.uf 314 M7)) (oO (.o2 .aX n6 (.uf 311 M7)) (oT n6 (.uf 312 M7) (oO (.o2 .aX (.o1 .ab (.uf 310 M7)) n6) (oT n6 (.uf 313 M7) [])))))]
abbrev uO : E := .sl []
abbrev Y7 : E := eP Ds (eP Ds (eP n6 (eP uO n6)))
abbrev Rc : E := .o2 .fj (eP (.il 1) (eP uO (eP (.sl [97]) (eP uO (eP uO (eP n6 (eP (.sl [50]) Y7))))))) (.o2 .fj (eP (.il 1) (eP uO (eP (.sl [98]) (eP uO (eP uO (eP n6 (eP (.sl [49]) Y7))))))) (eP (.il 5) (eP uO (eP uO (eP uO (eP uO (eP n6 (eP uO Y7))))))))
abbrev WW : E := .uf 315 (eP Rc n6)
abbrev aco : E := .o2 .aX (.o1 .ab (eC 2 WW (.il 2))) (.il 1)
abbrev YR : E := .o2 .aX (.o1 .ab WW) (.il 3)
abbrev yJ : E := eP Rc acP
abbrev acx : List Ob := oO (.o2 .beq Ds (.uf 314 yJ)) (oO (.o2 .aX n6 (.uf 311 yJ)) (oT n6 (.uf 312 yJ) (oO (.o2 .aX (.o1 .ab (.uf 310 yJ)) n6) (oT n6 (.uf 313 yJ) (oO (.uf 316 (eP Rc n6)) (oO (.o2 .beq Ds (.bl true)) []))))))
def Vx : List (aa × List Ob) :=
 [(fT aco (fT YR []), oO (.o2 .beq Ds (.uf 314 yJ)) (oO (.o2 .aX n6 (.uf 311 yJ)) (oT n6 (.uf 312 yJ) (oO (.o2 .aX (.o1 .ab (.uf 310 yJ)) n6) (oT n6 (.uf 313 yJ) (oO (.uf 316 (eP Rc n6)) (oO (.o2 .beq (.o2 .seq (eC 1 (eC 2 WW (.il 2)) n6) (.sl [98])) (.bl true)) []))))))),
  (fF aco (fT YR []), acx),
  (fF YR [], acx)]
end Go.Proofs.YtdlppkhmmclipaaGreat.sxObj
namespace Go.Proofs.YtdlppkhmmclipaaGreat.sxObj
open Go.Sx Go.RowKit Go.Proofs.YtdlppkhmmclipaaGreat
set_option linter.unusedVariables false
set_option linter.unusedSimpArgs false
set_option maxRecDepth 100000
theorem MH {l : Dv} (h1 : vK l) (h2 : xw l) : gH l := ⟨fun j hj => by
 obtain ⟨⟨a, b, _, _, c, _⟩, d, _⟩ := h1.1 j hj
 exact ⟨⟨a, b, c.2⟩, J6 d, (h2.1 j hj).2.2.2.1.2⟩, Nat.le_trans h2.2 (by decide)⟩
def yG : Row := [.i 1, .s ⟨[].toArray⟩, .s ⟨[97].toArray⟩, .s ⟨[].toArray⟩, .s ⟨[].toArray⟩, .i 0, .s ⟨[50].toArray⟩, .b false, .b false, .i 0, .s ⟨[].toArray⟩]
def Fs : Row := [.i 1, .s ⟨[].toArray⟩, .s ⟨[98].toArray⟩, .s ⟨[].toArray⟩, .s ⟨[].toArray⟩, .i 0, .s ⟨[49].toArray⟩, .b false, .b false, .i 0, .s ⟨[].toArray⟩]
def awC : Row := [.i 5, .s ⟨[].toArray⟩, .s ⟨[].toArray⟩, .s ⟨[].toArray⟩, .s ⟨[].toArray⟩, .i 0, .s ⟨[].toArray⟩, .b false, .b false, .i 0, .s ⟨[].toArray⟩]
def MA : Dv := .t [yG, Fs, awC]
def awS : List Row := fN (.t (fN (.t []) (bj yG) (du yG))) (bj Fs) (du Fs)
theorem aeJ : (dH MA 2).S = awS /\ (dH MA 2).c = false := by
 have e1 : dH MA 1 = ⟨fN (.t []) (bj yG) (du yG), false, fv ⟨[], 0, [], []⟩ (im yG) (dK yG)⟩ := by
  show (bG yG ⟨[], false, ⟨[], 0, [], []⟩⟩).1 = _; rw [Jm rfl rfl, if_neg (fun q => by cases q)]
 have e2 : dH MA 2 = (bG Fs (dH MA 1)).1 := rfl; rw [e2, e1, Jm rfl rfl, if_neg (fun q => by cases q)]
 exact ⟨rfl, rfl⟩
theorem HP {a b : List UInt8} (h : a < b) : cA ⟨a.toArray⟩ ⟨b.toArray⟩ = true := by
 rw [qu, toList_data, toList_data, decide_eq_true_eq]; exact h
theorem agP : awS = [du yG, du Fs] := by
 have e0 : fN (.t []) (bj yG) (du yG) = [du yG] := rfl
 have e1 : iJ (.t [du yG]) (bj Fs) = 1 := by
  show stop (Kp (.t [du yG]) (bj Fs)) 1 = 1; unfold stop; rw [if_neg]
  ·rfl
  ·show ¬ (!cA (kS (du yG)) (bj Fs)) = true; rw [show cA (kS (du yG)) (bj Fs) = true from HP (a := [97]) (b := [98]) (by decide)]
   decide
 have e2 : gF (.t [du yG]) (bj Fs) = false := by
  unfold gF; rw [e1]; rfl
 unfold awS; rw [e0]; unfold fN; rw [e1, e2]; rfl
theorem MC : ct (.t [du yG, du Fs]) 2 = 1 := by
 have e1 : ct (.t [du yG, du Fs]) 1 = 0 := by
  unfold ct; split <;> rfl
 unfold ct; rw [e1, if_pos]; exact HP (a := [49]) (b := [50]) (by decide)
theorem Vz : row (.t (bL MA)) 2 = aW 0 false [du Fs] [] := by
 obtain ⟨a, b⟩ := aeJ; rw [agP] at a; rw [mJ (show 2 < MA.T.length by decide), show row MA 2 = awC from rfl, Fa rfl, if_neg, a]
 ·show aW 0 false [row (.t [du yG, du Fs]) (ct (.t [du yG, du Fs]) 2)] [] = _; rw [MC]; rfl
 ·rw [a]; exact fun q => by cases q
theorem aau : Dv.t ([[Dv.i 1, Dv.s ⟨[].toArray⟩, Dv.s ⟨[97].toArray⟩, Dv.s ⟨[].toArray⟩, Dv.s ⟨[].toArray⟩, Dv.i 0, Dv.s ⟨[50].toArray⟩, Dv.b false, Dv.b false, Dv.i 0, Dv.s ⟨[].toArray⟩]] ++
    ([[Dv.i 1, Dv.s ⟨[].toArray⟩, Dv.s ⟨[98].toArray⟩, Dv.s ⟨[].toArray⟩, Dv.s ⟨[].toArray⟩, Dv.i 0, Dv.s ⟨[49].toArray⟩, Dv.b false, Dv.b false, Dv.i 0, Dv.s ⟨[].toArray⟩]] ++
     [[Dv.i 5, Dv.s ⟨[].toArray⟩, Dv.s ⟨[].toArray⟩, Dv.s ⟨[].toArray⟩, Dv.s ⟨[].toArray⟩, Dv.i 0, Dv.s ⟨[].toArray⟩, Dv.b false, Dv.b false, Dv.i 0, Dv.s ⟨[].toArray⟩]])) = MA := id rfl
theorem Vg : Int.toNat 2 = 2 := id rfl
theorem Ug : (bL MA).length = 3 := mD
theorem Ry : gH MA := ⟨fun j hj => by
 have hj : j < 3 := hj; rcases j with _ | _ | _ | j
 ·exact ⟨⟨by decide, by decide, by decide⟩, mU, by decide⟩
 ·exact ⟨⟨by decide, by decide, by decide⟩, mU, by decide⟩
 ·exact ⟨⟨by decide, by decide, by decide⟩, mU, by decide⟩
 ·omega, by decide⟩
section
variable {o : Env}
theorem Ng (hu : OU o) (hg : OG o) {r : Nat} (hr : o.v 2220 = .i r) (hle : (r : Int) <= ((E.uf 331 (pk [.v 7850])).den o).I) : br o KP := by
 simp only [pk, List.foldr, SS, implies_true, hg.all] at hle; have hle : r <= gN (Zj (o.v 7850)) (o.v 7850).T.length := by omega
 simp only [KP, al, av, and_true]
 and_intros
 all_goals intro h
 all_goals simp only [SS, implies_true, hr, hu.Jr, hu.RC, hg.all, aw, da, Classical.not_not] at h ⊢
 all_goals first
  | exact r6 hle (by omega)
  | exact iB (r := r) (by omega) (fun q => by have := q.2.2; omega)
  | exact iB (r := r) (by omega) (fun q => h.1 q.2.1)
  | exact iB (r := r) (by omega) (fun q => h.1 q.1)
  | (have := xj hle (by omega) ⟨h.2.2.1, h.2.1, by omega⟩; omega)
theorem QT (hg : OG o) : br o Uh := by
 simp only [Uh, al, av, and_true]
 and_intros
 all_goals intro h
 all_goals simp only [SS, implies_true, hg.all, aw, da, uz, uB, Classical.not_not, vK] at h ⊢
 ·omega
 ·exact fun q => h.1 q.1
 ·exact ⟨h.1, by omega⟩
theorem Lz (hu : OU o) (hg : OG o) {r : Nat} (hr : o.v 2221 = .i r) (hent : (JT.aV 0).aB o) (hle : (r : Int) <= ((E.uf 334 (pk [.v 7852])).den o).I) : br o NQ := by
 simp only [JT, Ow, pk, List.foldr, SS, implies_true, hg.all, aw] at hent hle; have hle : r <= gN (Zr (o.v 7852)) (o.v 7852).T.length := by omega
 obtain ⟨f1, f2⟩ := hent; simp only [NQ, al, av, and_true]
 and_intros
 all_goals intro h
 all_goals simp only [SS, implies_true, hr, hu.Jr, hu.RC, hu.V8, hu.aew, hg.all, aw, da, Classical.not_not] at h ⊢
 all_goals first
  | exact r6 hle (by omega)
  | (have f3 := f1 r (by omega); and_intros)
 all_goals try first
  | omega
  | exact f3.2.1.1 | exact f3.2.1.2 | exact f3.1.1 | exact f3.1.2.1 | exact f3.1.2.2.1 | exact f3.1.2.2.2.1 | exact f3.1.2.2.2.2.1.1 | exact f3.1.2.2.2.2.1.2 | exact f3.1.2.2.2.2.2
  | exact iB (r := r) (by omega) (fun q => by have := q.1; omega)
  | exact iB (r := r) (by omega) (fun q => by have := q.2.1; omega)
  | exact iB (r := r) (by omega) (fun q => by have := q.2.2.2.2; omega)
  | exact iB (r := r) (by omega) (fun q => h.1 q.2.2.1)
  | exact iB (r := r) (by omega) (fun q => h.1 q.2.2.2.1)
 all_goals have := xj hle (by omega) ⟨by omega, by omega, h.2.2.1, h.2.1, by omega⟩
 all_goals omega
theorem RQ (hg : OG o) : br o Ur := by
 simp only [Ur, al, av, and_true]
 and_intros
 all_goals intro h
 all_goals simp only [SS, implies_true, hg.all, aw, da, uz, uB, GO, Classical.not_not, xw] at h ⊢
 ·exact fun q => h q.1
 ·exact ⟨fun q => ⟨h, by omega⟩, fun q => by omega⟩
theorem LL (hj : OJ o) : br o LZ := by
 simp only [LZ, al, av, and_true]
 and_intros
 all_goals intro h
 all_goals simp only [SS, implies_true, hj.hp] at h ⊢
 exact ⟨rfl, rfl, rfl, rfl, rfl⟩
theorem OS (hj : OJ o) : br o Vx := by
 simp only [Vx, al, av, and_true]
 and_intros
 all_goals intro h
 all_goals simp only [SS, implies_true, hj.hp, aw] at h ⊢
 all_goals simp only [aau, Vg, Vz, Ug] at h ⊢
 ·exact ⟨rfl, rfl, rfl, rfl, rfl, Ry, rfl⟩
 ·exact absurd rfl h.1
 ·exact absurd rfl h
end
end Go.Proofs.YtdlppkhmmclipaaGreat.sxObj
namespace Go.Sx
open Go.RowKit
set_option linter.unusedVariables false
theorem Db {env : Env} {A : Anchor} {pl : Nat -> Option Pl} {fz : Nat -> Option Obj} {l : List (TypeId × aJ)} {w : World} (H : az env A ⟨pl, ⟨fz, fun _ _ => none⟩⟩ (bg []) w) (ha : A.ar = fun _ _ => none) : az env A ⟨pl, ⟨fz, fun _ _ => none⟩⟩ (bg (kz l)) w := by
 refine ⟨H.below, fun n o hn => ?_, fun m n o o' p q hm hn ho => ?_, ⟨fun n T ks e hn => ?_, (fun n T ks e i b hn h => by cases h), (fun n T ks e i b m o q hn h => by cases h), (fun n T ks e i n' T' ks' e' i' b hn hn' h => by cases h), (fun n T ks e i b hn h => by cases h), (fun T _ => by rw [ha])⟩, ⟨H.fz.at_, (fun b x n o p hb hn ho hp => ?_), H.fz.iM⟩⟩
 ·obtain ⟨T, ks, rfl, rfl⟩ := gE hn; rfl
 ·obtain ⟨T, ks, rfl, rfl⟩ := gE hm; cases ho
 ·obtain ⟨T', ks', rfl, h2⟩ := gE hn; injection h2 with h2 h3 h4; subst h4; exact ⟨(fun i b h => by cases h), fun i hi => absurd hi (Nat.not_lt_zero i)⟩
 ·obtain ⟨T, ks, rfl, rfl⟩ := gE hn; cases ho
def A3 (P : Program) (X : dF) (f : FuncId) (KS : List PK) (B2 : List (TypeId × aJ)) (fuel n : Nat) : Option (List (aa × List Ob)) :=
 match explore P X fuel (.fn false f (uZ KS 0)) (kz B2) KS.length n (sc KS 0) with
 | .ok l => some (l.map NM)
 | .error _ => none
theorem IC {P : Program} (hP : Plain P) (hM : P.follows .mixedOrders = true) {f : FuncId} {KS : List PK} (hsm : KS.all PK.small = true) (hsy : jU KS 0 = []) {X : dF} {B2 : List (TypeId × aJ)} {fuel n : Nat} {L : List (aa × List Ob)} (n5 : A3 P X f KS B2 fuel n = some L) {U : Nat -> Dv -> Dv}
    (hX : ∀ (o : Env) (A : Anchor), o.uf = U -> eJ P o A (X.cR P)) (hL : ∀ o : Env, o.uf = U -> br o L) (W : World) (VS : List Value) (hl : VS.length = KS.length)
    (cJ : ∀ (i : Nat) (p : PK) (v : Value), KS[i]? = some p -> VS[i]? = some v -> p.holds W v) : Calls P f VS.toArray W fun e W' => e = .returned (.bool true) /\ Below W.heap.size W W' := by
 unfold A3 at n5; cases he : explore P X fuel (.fn false f (uZ KS 0)) (kz B2) KS.length n (sc KS 0) with
 | error e => rw [he] at n5; cases n5
 | ok l =>
   rw [he] at n5; simp only [Option.some.injEq] at n5; have hsm' : ∀ p ∈ KS, p.small = true := by simpa using hsm
   have hgood : ∀ q ∈ l, q.fs.aB (ee W KS VS (pF U)) -> (∀ e ∈ q.vcs, e.den (ee W KS VS (pF U))) /\ ∃ e, q.r = .bool e /\ (e.den (ee W KS VS (pF U))).B = true := MY (by rw [n5]; exact hL _ rfl)
   have H : az (ee W KS VS (pF U)) (anchor W) (ng W VS) (bg (jU KS 0)) W := RE hl.symm hsm' cJ; rw [hsy] at H
   refine (mN hP hM (hX _ _ rfl) he (tP hsm' cJ KS 0 (fun k => by simp) (by simpa using hl.symm)) (fun q hq hf => (hgood q hq hf).1) (Db (pl := po VS) (fz := fun b => W.heap[b]?) H rfl)
    (fun n p hn => by rw [<- hl]; exact Jt hn) (zq hsm' cJ KS VS 0 (fun k => by simp) (fun k => by simp) hl.symm)).mono fun e W' hp => ?_
   obtain ⟨q, hq, hf, ρ', v, rfl, _, hs, _, hr⟩ := hp; obtain ⟨_, e, hqr, hB⟩ := hgood q hq hf; rw [hqr] at hr; simp only [SV.Rel] at hr; rw [hB] at hr; subst hr; exact ⟨rfl, hs.below.below⟩
end Go.Sx
namespace Go.Proofs.YtdlppkhmmclipaaGreat.sxObj
open Go.Sx Go.RowKit Go.Proofs.YtdlppkhmmclipaaGreat
set_option linter.unusedVariables false
def soE (r : E) : E := .uf 340 (pk [.v 7870, .v 7871, r])
def aaG : Nat × aA := (25, .row DW 11 (aH (.v 7780)) (bX J9 (.v 7780) 0) [])
def hmR : aj := { CQ with
 hd := fun m => let s := CQ.hd m; ⟨s.ov.map fun x => cond (Nat.beq x.1 0) (0, .sl 25 11 (.il 0) (aH (.v 7780))) x, aaG :: s.h, s.m, s.fs⟩
 hx := fun m => let s := CQ.hx m; ⟨s.ov.map fun x => cond (Nat.beq x.1 0) (0, .sl 25 11 (.il 0) (aH (.v 7780))) x, aaG :: s.h, s.m, s.fs⟩
 fixed := [25]
 aci := [(7780, 0)] }
def W1 : aa := [cX (aH (.v 7870)) (.il 80), cX (aH (.v 7872)) (.il 1600)]
def adg (r : E) : aQ := [(9, .row DW 11 (aH (soE r)) (bX J9 (soE r) 0) [])]
def aaX (r : E) : List (Nat × SV) := [(0, .cg J9 (.v 7870)), (1, .bool (.v 7871)), (9, .cg fW (.v 7872)), (6, .sl 9 11 (.il 0) (aH (soE r)))]
def Lw : aj where
 f := 4; key := 15; N := 184; r := 2222; base := 233000
 js := me 54 60
 hd := fun _ => ⟨aaX (.v 2222) ++ [(52, iS (aH (.v 7872))), (53, iS (.v 2222))], adg (.v 2222), 20, cX (.il 0) (.v 2222) :: cX (.v 2222) (aH (.v 7872)) :: W1⟩
 aV := fun _ => W1
 app := fun _ => true
 nT := fun m => Nat.beq m 0
 dY := fun _ => .ret 0
 ml := fun m => Nat.beq m 0
 mf := fun _ => []
 hx := fun _ => ⟨aaX (aH (.v 7872)) ++ [(52, .top), (53, .top)], adg (aH (.v 7872)), 20, []⟩
 ur := fun _ _ => .ret 0
 oN := fun _ => .exit 0
 bz := [(.bl true, 0)]
 fixed := []
 lt := .o2 .lt (.v 2222) (aH (.v 7872))
 X := dF.none
 fuel := 300; np := 80
 params := [7870, 7871, 7872]
 yn := [(DW, J9), (sg, fW)]
def aan (r : E) (j : Nat) : E := .o2 (.cell j) (.uf 341 (pk [.v 7875, .v 7877, r])) (.il 0)
def Yp : aa := [(.uf 342 (pk [.v 7875, .v 7877, .v 7876]), true), cX (aH (.v 7876)) (.il 1600)]
def aab : List (Nat × SV) := [(4, .bool (.bl false)), (7, iS (.v 7877)), (8, .cg stK (.v 7875)), (9, .cg fW (.v 7876))]
def M6 : aj where
 f := 4; key := 23; N := 184; r := 2223; base := 234000
 js := me 11 19 ++ me 101 183
 hd := fun _ => ⟨aab ++ [(10, .ptr 10 (.c 0)), (99, iS (aH (.v 7876))), (100, iS (.v 2223))], [(10, .cells sg (qB (aan (.v 2223))))], 20, cX (.il 0) (.v 2223) :: cX (.v 2223) (aH (.v 7876)) :: Yp⟩
 aV := fun _ => Yp
 app := fun _ => true
 nT := fun m => Nat.beq m 0
 dY := fun _ => .ret 0
 ml := fun m => Nat.beq m 0
 mf := fun _ => []
 hx := fun _ => ⟨aab ++ [(10, .top), (99, .top), (100, .top)], [], 20, []⟩
 ur := fun ex _ => match ex with | .ret => .ret 1 | _ => .ret 0
 oN := fun n => match n with | 1 => .ret | _ => .exit 2
 bz := [(.bl false, 1), (.bl true, 0)]
 fixed := []
 lt := .o2 .lt (.v 2223) (aH (.v 7876))
 X := (⟨[(pS, j5.bh), (lK, sq.bh), (rL, soF.bh)], []⟩ : jw).x
 fuel := 400; np := 120
 params := [7875, 7876, 7877]
 yn := [(sg, fW)]
def HI : cK := { ZR with
 yn := [(DW, J9)]
 app := fun a => match a with | [.sl n _ _ _] => Nat.blt 60 n | _ => true }
def XP : jw := ⟨[(vY, ON.bh), (qI, PO.bh), (wi, QZ.bh), (10, HI.bh)], [(rC, 4, hmR.dB), (4, 15, Lw.dB), (4, 23, M6.dB)]⟩
def S7 : List PK := [.cg J9, .bool]
set_option linter.unusedSimpArgs false
def dj (k : Int) : Row := [.i k, .s ⟨[].toArray⟩, .s ⟨[].toArray⟩, .s ⟨[].toArray⟩, .s ⟨[].toArray⟩, .i 0, .s ⟨[].toArray⟩, .b false, .b false, .i 0, .s ⟨[].toArray⟩]
def jS (ops : List Row) (c : Bool) : List Row := ops ++ (dj 6 :: (if c = true then [dj 9] else []))
def yE (ops : List Row) (c : Bool) (r : Nat) : List Row := jS ops c ++ List.replicate r (dj 5)
def nN (ops : List Row) (c : Bool) (r : Nat) : List Row := yE ops c r ++ [dj 6, dj 5]
def aek : Row := [.s ⟨[].toArray⟩, .s ⟨[].toArray⟩, .s ⟨[].toArray⟩, .s ⟨[].toArray⟩, .i 0, .s ⟨[].toArray⟩, .b false, .b false]
def kV (A : Dv) (f : Nat) (i : Nat) : Row := row (cc (row A (f + i)) 2) 0
def qg (A : Dv) (f : Nat) : Nat -> Row
 | 0 => aek
 | r + 1 => kV A f r
structure adp (A : Dv) (f : Nat) (S : Dv) (i : Nat) : Prop where
 e : (cc (row A (f + i)) 0).I = 0
 n : (cc (row A (f + i)) 2).T.length = 1
 b : (cc (kV A f i) 6).B = false
 o : iD (kV A f i)
 a : gF S (iP (cc (kV A f i) 0).S (cc (kV A f i) 1).S) = true
 x : row S (iJ S (iP (cc (kV A f i) 0).S (cc (kV A f i) 1).S)) = kV A f i
 l : 0 < i -> cA (cc (kV A f i) 5).S (cc (kV A f (i - 1)) 5).S = false /\
  ((cc (kV A f i) 5).S.toList = (cc (kV A f (i - 1)) 5).S.toList -> cA (iP (cc (kV A f (i - 1)) 0).S (cc (kV A f (i - 1)) 1).S) (iP (cc (kV A f i) 0).S (cc (kV A f i) 1).S) = true)
structure C9 (A : Dv) (f : Nat) (S : Dv) : Prop where
 o : ew S.T
 n : f + S.T.length <= A.T.length
 s : A.T.length <= 1000000
 c : ∀ i, i < S.T.length -> adp A f S i
noncomputable def adN (c : Nat) (d : Dv) : Dv :=
 match c with
 | 340 => .t (yE (ar d 0).T (ar d 1).B (ar d 2).I.toNat)
 | 341 => .t [qg (ar d 0) (ar d 1).I.toNat (ar d 2).I.toNat]
 | 342 => .b (dec (0 <= (ar d 1).I /\ C9 (ar d 0) (ar d 1).I.toNat (ar d 2)))
 | _ => .i 0
def OO (o : Env) : Prop := ∀ c d, 340 <= c -> c < 350 -> o.uf c d = adN c d
theorem OO.aE {o o' : Env} (h : OO o) (e : o'.uf = o.uf) : OO o' := fun c d h1 h2 => by rw [e]; exact h c d h1 h2
theorem OO.all {o : Env} (h : OO o) : (∀ d, o.uf 340 d = .t (yE (ar d 0).T (ar d 1).B (ar d 2).I.toNat)) /\ (∀ d, o.uf 341 d = .t [qg (ar d 0) (ar d 1).I.toNat (ar d 2).I.toNat]) /\ (∀ d, o.uf 342 d = .b (dec (0 <= (ar d 1).I /\ C9 (ar d 0) (ar d 1).I.toNat (ar d 2)))) :=
 ⟨fun d => h 340 d (by decide) (by decide), fun d => h 341 d (by decide) (by decide), fun d => h 342 d (by decide) (by decide)⟩
theorem Qa {a b : List Row} {n : Nat} (h : n < a.length) : row (.t (a ++ b)) n = row (.t a) n := by
 show ((a ++ b)[n]?).getD [] = (a[n]?).getD []; rw [List.getElem?_append_left h]
theorem NT {a b : List Row} {x : Row} : row (.t (a ++ x :: b)) a.length = x := by
 show ((a ++ x :: b)[a.length]?).getD [] = x; rw [List.getElem?_append_right (Nat.le_refl _), Nat.sub_self]; rfl
theorem AJ {a b : List Row} : ∀ n, n <= a.length -> dH (.t (a ++ b)) n = dH (.t a) n
 | 0, _ => rfl
 | n + 1, h => by
   show (bG _ (dH (.t (a ++ b)) n)).1 = (bG _ (dH (.t a) n)).1; rw [AJ n (by omega), Qa (by omega)]
def FH (r : Row) : Prop := iD (du r) /\ ew (cc r 9).T /\ (cc r 9).T.length <= 20
theorem CN {l : List Row} (h : ∀ r ∈ l, FH r) (hl : l.length <= 2000) : gH (.t l) := ⟨fun j hj => h _ (fS (d := .t l) hj), hl⟩
theorem HO {l : Dv} (h : gH l) : ∀ r ∈ l.T, FH r := fun r hr => by
 obtain ⟨n, hn, rfl⟩ := mem_row hr; exact h.1 n hn
theorem rV {k : Int} : FH (dj k) := ⟨⟨(by decide : 0 <= 2147483647), (by decide : 0 <= 2147483647), (by decide : 0 <= 2147483647)⟩, mU, (by decide : 0 <= 20)⟩
section
variable {ops : List Row} {c : Bool}
theorem m7 : (jS ops c).length = ops.length + 1 + (if c = true then 1 else 0) := by
 unfold jS; rw [List.length_append, List.length_cons]; split <;> simp only [List.length_cons, List.length_nil] <;> omega
theorem A4 {r : Nat} : (yE ops c r).length = (jS ops c).length + r := by
 unfold yE; rw [List.length_append, List.length_replicate]
theorem pV {r : Nat} : (nN ops c r).length = (jS ops c).length + r + 2 := by
 unfold nN; rw [List.length_append, A4]; rfl
theorem acT {r : Nat} : yE ops c r ++ [dj 5] = yE ops c (r + 1) := by
 unfold yE; rw [List.replicate_succ', List.append_assoc]
theorem Th : yE ops c 0 = jS ops c := by
 unfold yE; rw [List.replicate_zero, List.append_nil]
theorem TM (h : ∀ r ∈ ops, FH r) : ∀ r ∈ jS ops c, FH r := fun r hr => by
 rcases List.mem_append.1 hr with q | q
 ·exact h r q
 ·rcases List.mem_cons.1 q with rfl | q
  ·exact rV
  ·split at q
   ·rw [List.mem_singleton.1 q]; exact rV
   ·cases q
theorem ab7 {m : Nat} (h : ∀ r ∈ ops, FH r) : ∀ r ∈ nN ops c m, FH r := fun r hr => by
 rcases List.mem_append.1 hr with q | q
 ·rcases List.mem_append.1 q with q | q
  ·exact TM h r q
  ·rw [(List.mem_replicate.1 q).2]; exact rV
 ·rcases List.mem_cons.1 q with rfl | q
  ·exact rV
  ·rw [List.mem_singleton.1 q]; exact rV
theorem Nf (h : gH (.t ops)) (hl : ops.length <= 80) : gH (.t (jS ops c)) := CN (TM (HO h)) (by rw [m7]; split <;> omega)
theorem Ma {m : Nat} (h : gH (.t ops)) (hl : ops.length <= 80) (hm : m <= 1600) : gH (.t (nN ops c m)) := CN (ab7 (HO h)) (by rw [pV, m7]; split <;> omega)
noncomputable def cV (ops : List Row) : List Row := (dH (.t ops) ops.length).S
theorem Nq : row (.t (bL (.t (jS ops c)))) ops.length = aW 0 false (cV ops) [] := by
 have hl : ops.length < (Dv.t (jS ops c)).T.length := by
  show ops.length < (jS ops c).length; rw [m7]; split <;> omega
 rw [mJ hl]; have e1 : row (.t (jS ops c)) ops.length = dj 6 := NT; have e2 : dH (.t (jS ops c)) ops.length = dH (.t ops) ops.length := AJ _ (Nat.le_refl _); rw [e1, e2, NC rfl]; rfl
theorem VM : (dH (.t (jS ops c)) (jS ops c).length).S = cV ops := by
 have e2 : dH (.t (jS ops c)) ops.length = dH (.t ops) ops.length := AJ _ (Nat.le_refl _); have e1 : row (.t (jS ops c)) ops.length = dj 6 := NT
 have e3 : dH (.t (jS ops c)) (ops.length + 1) = dH (.t ops) ops.length := by
  show (bG _ (dH (.t (jS ops c)) ops.length)).1 = _; rw [e1, e2, NC rfl]
 cases c with
 | false =>
   rw [m7]; show (dH (.t (jS ops false)) (ops.length + 1)).S = _; rw [e3]; rfl
 | true =>
   rw [m7]; show (bG (row (.t (jS ops true)) (ops.length + 1)) (dH (.t (jS ops true)) (ops.length + 1))).1.S = _
   have e4 : row (.t (jS ops true)) (ops.length + 1) = dj 9 := by
    show ((ops ++ [dj 6, dj 9])[ops.length + 1]?).getD [] = _; rw [List.getElem?_append_right (by omega), show ops.length + 1 - ops.length = 1 by omega]; rfl
   rw [e4, e3, ac8 rfl]; rfl
noncomputable def gZ (ops : List Row) : Nat -> List Row
 | 0 => cV ops
 | n + 1 => b8 (.t (gZ ops n)) (kS (row (.t (gZ ops n)) (ct (.t (gZ ops n)) (gZ ops n).length)))
noncomputable def kC (ops : List Row) (n : Nat) : Row := row (.t (gZ ops n)) (ct (.t (gZ ops n)) (gZ ops n).length)
theorem Ja {S : List Row} {k : ByteArray} (h : gF (.t S) k = true) : (b8 (.t S) k).length = S.length - 1 := by
 have hl := Bd h; simp only [OQ] at hl; unfold b8; rw [if_pos h, List.length_append, List.length_take, List.length_drop]; simp only [OQ]; omega
structure Left (ops : List Row) (i : Nat) : Prop where
 g : Good (gZ ops i)
 n : (gZ ops i).length = (cV ops).length - i
 s : ∀ x ∈ gZ ops i, x ∈ cV ops
theorem sD {i : Nat} (L : Left ops i) (h : i < (cV ops).length) : kC ops i ∈ gZ ops i := fS (d := .t _) (pe _ (by rw [L.n]; omega))
theorem Rw {i : Nat} (L : Left ops i) (h : i < (cV ops).length) : kS (kC ops i) = kO (kC ops i) := rW (L.g.g _ (sD L h))
theorem J3 {S : List Row} (g : Good S) {k : ByteArray} : Good (b8 (.t S) k) := rq g
theorem mT (g : Good (cV ops)) : ∀ i, i <= (cV ops).length -> Left ops i
 | 0, _ => ⟨g, (Nat.sub_zero _).symm, fun _ h => h⟩
 | i + 1, h => by
   have L := mT g i (by omega)
   have hm := sD L (by omega)
   have ha := (Ap L.g hm (k := kS (kC ops i)) rfl).1; refine ⟨J3 L.g, ?_, fun x hx => L.s x ((fO L.g.i).1 hx).1⟩; show (b8 (.t (gZ ops i)) (kS (kC ops i))).length = _; rw [Ja ha, L.n]; omega
theorem L7 {i : Nat} (g : Good (cV ops)) (h : i + 1 < (cV ops).length) :
    cA (cc (kC ops (i + 1)) 5).S (cc (kC ops i) 5).S = false /\ ((cc (kC ops (i + 1)) 5).S.toList = (cc (kC ops i) 5).S.toList -> cA (kO (kC ops i)) (kO (kC ops (i + 1))) = true) := by
 have L := mT g i (by omega)
 have L1 := mT g (i + 1) (by omega)
 have hm := sD L (by omega)
 have hm1 := sD L1 h; obtain ⟨h1, h2⟩ := (fO L.g.i).1 (show kC ops (i + 1) ∈ b8 (.t (gZ ops i)) (kS (kC ops i)) from hm1); obtain ⟨j, hj, e⟩ := mem_row (d := .t (gZ ops i)) h1; have hmin := s5 L.g (gZ ops i).length (Nat.le_refl _) j hj; have e : row (.t (gZ ops i)) j = kC ops (i + 1) := e; have hmin : kg (kC ops (i + 1)) (kC ops i) = false := by rw [<- e]; exact hmin
 rw [<- Bool.not_eq_true, mW] at hmin; rw [nM L.g h1, Rw L (by omega)] at h2
 refine ⟨?_, fun q => ?_⟩
 ·rw [qu, decide_eq_false_iff_not]; exact fun q => hmin (.inl q)
 ·rw [qu, decide_eq_true_eq]; rcases UO (kO (kC ops i)).toList (kO (kC ops (i + 1))).toList with p | p | p
  ·exact p
  ·exact absurd p.symm h2
  ·exact absurd (.inr ⟨q, p⟩) hmin
theorem Af {m : Nat} : nN ops c m = jS ops c ++ (List.replicate m (dj 5) ++ [dj 6, dj 5]) := by
 unfold nN yE; rw [List.append_assoc]
theorem Hl {m i : Nat} (h : i < m) : row (.t (nN ops c m)) ((jS ops c).length + i) = dj 5 := by
 show ((nN ops c m)[_]?).getD [] = _; rw [Af, List.getElem?_append_right (by omega), Nat.add_sub_cancel_left, List.getElem?_append_left (by rw [List.length_replicate]; exact h), List.getElem?_replicate, if_pos h]
 rfl
theorem Ea {m : Nat} : row (.t (nN ops c m)) ((jS ops c).length + m) = dj 6 := by
 show ((nN ops c m)[_]?).getD [] = _; rw [Af, List.getElem?_append_right (by omega), Nat.add_sub_cancel_left, List.getElem?_append_right (by rw [List.length_replicate]; exact Nat.le_refl _), List.length_replicate, Nat.sub_self]
 rfl
theorem Qt {m : Nat} : row (.t (nN ops c m)) ((jS ops c).length + m + 1) = dj 5 := by
 show ((nN ops c m)[_]?).getD [] = _; rw [Af, List.getElem?_append_right (by omega), show (jS ops c).length + m + 1 - (jS ops c).length = m + 1 by omega, List.getElem?_append_right (by rw [List.length_replicate]; omega), List.length_replicate, show m + 1 - m = 1 by omega]
 rfl
theorem HC {i : Nat} (L : Left ops i) (h : i < (cV ops).length) : gZ ops i ≠ [] := fun q => by
 have := L.n; rw [q, List.length_nil] at this; omega
theorem Ae {m : Nat} (g : Good (cV ops)) (hm : m = (cV ops).length) : ∀ i, i <= m -> (dH (.t (nN ops c m)) ((jS ops c).length + i)).S = gZ ops i
 | 0, _ => by
   rw [Nat.add_zero, Af, AJ _ (Nat.le_refl _), VM]; rfl
 | i + 1, h => by
   have ih := Ae g hm i (by omega)
   have L := mT g i (by omega)
   show (bG (row (.t (nN ops c m)) ((jS ops c).length + i)) (dH (.t (nN ops c m)) ((jS ops c).length + i))).1.S = _; rw [Hl (by omega), Fa rfl, if_neg (by rw [ih]; exact HC L (by omega)), ih]
   rfl
theorem BP {m i : Nat} (g : Good (cV ops)) (hm : m = (cV ops).length) (h : i < m) : row (.t (bL (.t (nN ops c m)))) ((jS ops c).length + i) = aW 0 false [kC ops i] [] := by
 have ih := Ae (c := c) g hm i (by omega)
 have L := mT g i (by omega)
 rw [mJ (show _ < (nN ops c m).length by rw [pV]; omega), Hl h, Fa rfl, if_neg (by rw [ih]; exact HC L (by omega)), ih]
 rfl
theorem Cd {m : Nat} (g : Good (cV ops)) (hm : m = (cV ops).length) : gZ ops m = [] := by
 have L := mT g m (by omega)
 exact List.length_eq_zero_iff.1 (by rw [L.n]; omega)
theorem Ro {m : Nat} (g : Good (cV ops)) (hm : m = (cV ops).length) : row (.t (bL (.t (nN ops c m)))) ((jS ops c).length + m) = aW 0 false [] [] := by
 have ih := Ae (c := c) g hm m (Nat.le_refl _); rw [mJ (show _ < (nN ops c m).length by rw [pV]; omega), Ea, NC rfl, ih, Cd g hm]
theorem N2 {m : Nat} (g : Good (cV ops)) (hm : m = (cV ops).length) : ¬ (cc (row (.t (bL (.t (nN ops c m)))) ((jS ops c).length + m + 1)) 0).I = 0 := by
 have ih := Ae (c := c) g hm m (Nat.le_refl _)
 have e : (dH (.t (nN ops c m)) ((jS ops c).length + m + 1)).S = [] := by
  show (bG (row (.t (nN ops c m)) ((jS ops c).length + m)) (dH (.t (nN ops c m)) ((jS ops c).length + m))).1.S = _; rw [Ea, NC rfl, ih, Cd g hm]
 rw [mJ (show _ < (nN ops c m).length by rw [pV]; omega), Qt, Fa rfl, if_pos e]
 show ¬ (if _ then (5 : Int) else 99) = 0
 split <;> decide
theorem QI {m : Nat} (g : Good (cV ops)) (ho : ew (cV ops)) (hm : m = (cV ops).length) (hs : (nN ops c m).length <= 1000000) : C9 (.t (bL (.t (nN ops c m)))) (jS ops c).length (.t (cV ops)) := by
 have got : ∀ i, i < m -> kV (.t (bL (.t (nN ops c m)))) (jS ops c).length i = kC ops i := fun i hi => by
  unfold kV; rw [BP g hm hi]; rfl
 have el : (bL (.t (nN ops c m))).length = (nN ops c m).length := mD; refine ⟨ho, ?_, ?_, fun i hi => ?_⟩
 ·show _ + (cV ops).length <= (bL (.t (nN ops c m))).length; rw [el, pV]; omega
 ·show (bL (.t (nN ops c m))).length <= _; rw [el]; exact hs
 ·have hi : i < (cV ops).length := hi; have L := mT g i (by omega)
  have tJ := sD L hi; have hmem := L.s _ tJ; have hb := g.g _ hmem; have hk : kl (kC ops i) = (iP (cc (kC ops i) 0).S (cc (kC ops i) 1).S).toList := nM g hmem; obtain ⟨a1, a2⟩ := Ap g hmem hk; have e := got i (by omega)
  refine ⟨?_, ?_, ?_, ?_, ?_, ?_, ?_⟩
  ·rw [BP g hm (by omega)]; rfl
  ·rw [BP g hm (by omega)]; rfl
  ·rw [e]; exact hb
  ·rw [e]; exact ho _ hmem
  ·rw [e]; exact a1
  ·rw [e]; exact a2
  ·intro h0; have e1 := got (i - 1) (by omega)
   rw [e, e1]; have := L7 (i := i - 1) g (by omega)
   rw [show i - 1 + 1 = i by omega] at this
   exact this
end
end Go.Proofs.YtdlppkhmmclipaaGreat.sxObj
namespace Go.Proofs.YtdlppkhmmclipaaGreat.sxObj
open Go.Sx
set_option linter.unusedVariables false
set_option maxRecDepth 100000
abbrev oz0 : E := .o2 .lt (.v 2222) (.o1 .ab (.v 7872))
abbrev bp : E := .il 0
abbrev oz2 : E := .uf 340 (eP (.v 7870) (eP (.v 7871) (eP (.v 2222) bp)))
abbrev TD : E := .il 2147483648
abbrev uN : E := .il 1
abbrev oz5 : E := .uf 340 (eP (.v 7870) (eP (.v 7871) (eP (.o2 .add (.v 2222) uN) bp)))
abbrev jP : E := .sl []
abbrev mO : E := .bl false
abbrev oz8 : E := eP jP (eP jP (eP jP (eP jP (eP bp (eP jP (eP mO (eP mO (eP bp (eP jP bp)))))))))
abbrev oz9 : E := .uf 340 (eP (.v 7870) (eP (.v 7871) (eP (.o1 .ab (.v 7872)) bp)))
def VH : List (aa × List Ob) :=
 [(fT oz0 [], oO (.o2 .le (.o1 .ab oz2) TD) (oO (.o2 .aX (.o2 .add (.o1 .ab oz2) uN) (.o1 .ab oz5)) (oT (.o2 .fj oz2 (eP (.il 5) oz8)) oz5 []))),
  (fF oz0 [], oO (.o2 .aX (.o1 .ab oz2) (.o1 .ab oz9)) (oT oz2 oz9 []))]
abbrev ju : E := .o2 .add (.v 7877) (.v 2223)
abbrev Bm : E := eC 2 (.v 7875) ju
abbrev Ey : E := eC 5 Bm bp
abbrev sf : E := .uf 341 (eP (.v 7875) (eP (.v 7877) (eP (.v 2223) bp)))
abbrev uJ : E := .o2 .slt Ey (eC 5 sf bp)
abbrev dR : E := .v 7876
abbrev Nc : E := eP dR (eP jP bp)
abbrev EZ : E := eC 6 Bm bp
abbrev Vh : E := .o2 .aX (.o1 .ab Bm) uN
abbrev abP : E := .o2 .aX (eC 0 (.v 7875) ju) bp
abbrev VK : E := .o2 .lt (.v 2223) (.o1 .ab dR)
abbrev X7 : aa := fT abP (fT VK [])
abbrev abu : aa := fT EZ (fT Vh X7)
abbrev ada : aa := fT (eC 6 sf bp) abu
abbrev aaH : aa := fT (.uf 105 Nc) ada
abbrev VI : aa := fT (.o2 .lt bp (.v 2223)) aaH
abbrev N5 : E := eC 7 Bm bp
abbrev kZ : E := .uf 104 Nc
abbrev Fl : E := eC 4 Bm bp
abbrev Kt : E := eC 3 Bm bp
abbrev Mx : E := eC 2 Bm bp
abbrev C0 : E := eC 1 Bm bp
abbrev C1 : E := eC 0 Bm bp
abbrev iR : E := .il 9223372036854775807
abbrev abl : List Ob := oO (.o2 .lt ju (.o1 .ab (.v 7875))) (oO (.o2 .le bp ju) (oO (.o2 .le ju iR) (oO (.o2 .le (.il (-9223372036854775808)) ju) [])))
abbrev aen : List Ob := oO (.o2 .lt ju (.o1 .ab (.v 7875))) (oO (.o2 .le bp ju) (oO (.o2 .le ju iR) (oO (.o2 .le (.il (-9223372036854775808)) ju) abl)))
abbrev Ux : List Ob := oO (.uf 111 (eP dR bp)) (oO (.uf 110 (eP (eC 0 sf bp) (eP (eC 1 sf bp) (eP (eC 4 sf bp) bp)))) (oO (.uf 110 (eP C1 (eP C0 (eP Fl bp)))) (oO (.o2 .lt ju (.o1 .ab (.v 7875))) (oO (.o2 .le bp ju) (oO (.o2 .le ju iR) (oO (.o2 .le (.il (-9223372036854775808)) ju) aen))))))
abbrev PL : List Ob := oO mO (oO (.o2 .beq N5 (eC 7 dR kZ)) (oO (.o2 .beq EZ (eC 6 dR kZ)) (oO (.o2 .seq Ey (eC 5 dR kZ)) (oT Fl (eC 4 dR kZ) (oO (.o2 .seq Kt (eC 3 dR kZ)) (oO (.o2 .seq Mx (eC 2 dR kZ)) (oO (.o2 .seq C0 (eC 1 dR kZ)) (oO (.o2 .seq C1 (eC 0 dR kZ)) (oO (.o2 .le (.o1 .ab (eC 4 dR kZ)) (.il 2147483647)) (oO (.o2 .lt kZ (.o1 .ab dR)) (oO (.o2 .le bp kZ) Ux)))))))))))
abbrev DD : E := .o2 .seq Ey (eC 5 sf bp)
abbrev DR : E := .uf 341 (eP (.v 7875) (eP (.v 7877) (eP (.o2 .add (.v 2223) uN) bp)))
abbrev aaZ : List Ob := oO (.uf 111 (eP dR bp)) (oO (.uf 110 (eP (eC 0 sf bp) (eP (eC 1 sf bp) (eP (eC 4 sf bp) bp)))) (oO (.uf 110 (eP C1 (eP C0 (eP Fl bp)))) (oO (.o2 .lt ju (.o1 .ab (.v 7875))) (oO (.o2 .le bp ju) (oO (.o2 .le ju iR) (oO (.o2 .le (.il (-9223372036854775808)) ju) (oO (.o2 .lt ju (.o1 .ab (.v 7875))) (oO (.o2 .le bp ju) (oO (.o2 .le ju iR) (oO (.o2 .le (.il (-9223372036854775808)) ju) (oO (.o2 .lt ju (.o1 .ab (.v 7875))) (oO (.o2 .le bp ju) (oO (.o2 .le ju iR) (oO (.o2 .le (.il (-9223372036854775808)) ju) (oO (.o2 .seq C1 (eC 0 DR bp)) (oO (.o2 .seq C0 (eC 1 DR bp)) (oO (.o2 .seq Mx (eC 2 DR bp)) (oO (.o2 .seq Kt (eC 3 DR bp)) (oT Fl (eC 4 DR bp) (oO (.o2 .seq Ey (eC 5 DR bp)) (oO (.o2 .beq EZ (eC 6 DR bp)) (oO (.o2 .beq N5 (eC 7 DR bp)) []))))))))))))))))))))))
abbrev KB : List Ob := oO (.o2 .beq N5 (eC 7 dR kZ)) (oO (.o2 .beq EZ (eC 6 dR kZ)) (oO (.o2 .seq Ey (eC 5 dR kZ)) (oT Fl (eC 4 dR kZ) (oO (.o2 .seq Kt (eC 3 dR kZ)) (oO (.o2 .seq Mx (eC 2 dR kZ)) (oO (.o2 .seq C0 (eC 1 dR kZ)) (oO (.o2 .seq C1 (eC 0 dR kZ)) (oO (.o2 .le (.o1 .ab (eC 4 dR kZ)) (.il 2147483647)) (oO (.o2 .lt kZ (.o1 .ab dR)) (oO (.o2 .le bp kZ) aaZ))))))))))
abbrev Qj : List Ob := oO mO Ux
abbrev aaf : aa := fF (eC 6 sf bp) abu
abbrev aa0 : aa := fT (.uf 105 Nc) aaf
abbrev XZ : aa := fT (.o2 .lt bp (.v 2223)) aa0
abbrev Py : E := .uf 100 (eP (eC 0 sf bp) (eP (eC 1 sf bp) bp))
abbrev adh : aa := fT DD (fF uJ XZ)
abbrev KY : E := .uf 100 (eP C1 (eP C0 bp))
abbrev MQ : E := eP dR (eP KY bp)
abbrev aca : aa := fF EZ (fT Vh X7)
abbrev acr : aa := fT (eC 6 sf bp) aca
abbrev abD : aa := fT (.uf 105 MQ) acr
abbrev Yf : aa := fT (.o2 .lt bp (.v 2223)) abD
abbrev la : E := .uf 104 MQ
abbrev O5 : List Ob := oO mO (oO (.o2 .beq N5 (eC 7 dR la)) (oO (.o2 .beq EZ (eC 6 dR la)) (oO (.o2 .seq Ey (eC 5 dR la)) (oT Fl (eC 4 dR la) (oO (.o2 .seq Kt (eC 3 dR la)) (oO (.o2 .seq Mx (eC 2 dR la)) (oO (.o2 .seq C0 (eC 1 dR la)) (oO (.o2 .seq C1 (eC 0 dR la)) (oO (.o2 .le (.o1 .ab (eC 4 dR la)) (.il 2147483647)) (oO (.o2 .lt la (.o1 .ab dR)) (oO (.o2 .le bp la) Ux)))))))))))
abbrev Z1 : aa := fT DD (fF uJ Yf)
abbrev J7 : List Ob := oO (.o2 .beq N5 (eC 7 dR la)) (oO (.o2 .beq EZ (eC 6 dR la)) (oO (.o2 .seq Ey (eC 5 dR la)) (oT Fl (eC 4 dR la) (oO (.o2 .seq Kt (eC 3 dR la)) (oO (.o2 .seq Mx (eC 2 dR la)) (oO (.o2 .seq C0 (eC 1 dR la)) (oO (.o2 .seq C1 (eC 0 dR la)) (oO (.o2 .le (.o1 .ab (eC 4 dR la)) (.il 2147483647)) (oO (.o2 .lt la (.o1 .ab dR)) (oO (.o2 .le bp la) aaZ))))))))))
abbrev abC : aa := fF (eC 6 sf bp) aca
abbrev acz : aa := fT (.uf 105 MQ) abC
abbrev Xl : aa := fT (.o2 .lt bp (.v 2223)) acz
abbrev ac4 : aa := fT DD (fF uJ Xl)
def X5 : List (aa × List Ob) :=
 [(fT uJ VI, PL),
  (fT DD (fF uJ VI), PL),
  (fF DD (fF uJ VI), KB),
  (fF (.o2 .lt bp (.v 2223)) aaH, KB),
  (fF (.uf 105 Nc) ada, Qj),
  (fT uJ XZ, PL),
  (fT (.o2 .slt Py jP) adh, KB),
  (fF (.o2 .slt Py jP) adh, PL),
  (fF DD (fF uJ XZ), KB),
  (fF (.o2 .lt bp (.v 2223)) aa0, KB),
  (fF (.uf 105 Nc) aaf, Qj),
  (fT uJ Yf, O5),
  (fT (.o2 .slt jP KY) Z1, J7),
  (fF (.o2 .slt jP KY) Z1, O5),
  (fF DD (fF uJ Yf), J7),
  (fF (.o2 .lt bp (.v 2223)) abD, J7),
  (fF (.uf 105 MQ) acr, Qj),
  (fT uJ Xl, O5),
  (fT (.o2 .slt Py KY) ac4, J7),
  (fF (.o2 .slt Py KY) ac4, O5),
  (fF DD (fF uJ Xl), J7),
  (fF (.o2 .lt bp (.v 2223)) acz, J7),
  (fF (.uf 105 MQ) abC, Qj),
  (fF Vh X7, oO mO aen),
  (fF abP (fT VK []), oO mO abl),
  (fF VK [], [])]
abbrev nZ : E := eP (.il 6) oz8
abbrev iI : E := .o2 .fj nZ (eP (.il 9) oz8)
abbrev XD : E := .uf 315 (eP iI bp)
abbrev m6 : E := .o1 .ab (.v 0)
abbrev Rm : E := .o1 .ab (eC 2 XD m6)
abbrev Yb : E := .uf 340 (eP (.v 0) (eP (.v 32) (eP Rm bp)))
abbrev O3 : E := .o2 .fj nZ (eP (.il 5) oz8)
abbrev adl : E := eP (.o2 .fj Yb O3) bp
abbrev E3 : E := .uf 315 adl
abbrev nV : E := .il 2
abbrev CY : E := .o2 .add nV Rm
abbrev VZ : E := .o2 .add CY uN
abbrev adJ : E := .o2 .aX (eC 0 E3 VZ) bp
abbrev acV : E := .o2 .aX (.o1 .ab (eC 2 E3 CY)) bp
abbrev UN : E := .o2 .aX (.o1 .ab E3) (.o2 .add CY nV)
abbrev adC : E := .o2 .aX (.o1 .ab XD) nV
abbrev aeF : E := .uf 335 (eP (.v 0) bp)
abbrev Uz : E := .uf 332 (eP (.v 0) bp)
abbrev WB : aa := fT (.o2 .le m6 iR) []
abbrev adD : aa := fT aeF (fT Uz WB)
abbrev Pu : aa := fT (.o2 .aX m6 bp) adD
abbrev Yy : aa := fT adC (fT (.v 32) Pu)
abbrev ab4 : aa := fT acV (fT UN Yy)
abbrev IY : E := .il 2000
abbrev Al : E := eP bp bp
abbrev Mf : E := .uf 340 (eP (.v 0) (eP (.v 32) Al))
abbrev O4 : E := .o1 .ab Mf
abbrev Oj : E := eP iI Al
abbrev aaO : List Ob := oO (.o2 .beq mO (.uf 314 Oj)) (oO (.o2 .aX bp (.uf 311 Oj)) (oT bp (.uf 312 Oj) (oO (.o2 .aX (.o1 .ab (.uf 310 Oj)) bp) (oT bp (.uf 313 Oj) (oO (.o2 .seq jP (eC 10 iI uN)) (oT bp (eC 9 iI uN) (oO (.o2 .beq mO (eC 8 iI uN)) (oO (.o2 .beq mO (eC 7 iI uN)) (oO (.o2 .seq jP (eC 6 iI uN)) (oT bp (eC 5 iI uN) (oO (.o2 .seq jP (eC 4 iI uN)) (oO (.o2 .seq jP (eC 3 iI uN)) (oO (.o2 .seq jP (eC 2 iI uN)) (oO (.o2 .seq jP (eC 1 iI uN)) (oO (.o2 .aX (.il 9) (eC 0 iI uN)) (oO (.o2 .seq jP (eC 10 iI bp)) (oT bp (eC 9 iI bp) (oO (.o2 .beq mO (eC 8 iI bp)) (oO (.o2 .beq mO (eC 7 iI bp)) (oO (.o2 .seq jP (eC 6 iI bp)) (oT bp (eC 5 iI bp) (oO (.o2 .seq jP (eC 4 iI bp)) (oO (.o2 .seq jP (eC 3 iI bp)) (oO (.o2 .seq jP (eC 2 iI bp)) (oO (.o2 .seq jP (eC 1 iI bp)) (oO (.o2 .aX (.il 6) (eC 0 iI bp)) (oO (.uf 316 (eP iI bp)) [])))))))))))))))))))))))))))
abbrev acv : List Ob := oO (.o2 .le (.o2 .add CY nV) iR) (oO (.o2 .le CY iR) (oO (.o2 .le (.o2 .add (.o1 .ab Yb) nV) IY) (oO (.uf 316 adl) (oO (.o2 .le (.o1 .ab Yb) TD) (oT iI Mf (oO (.o2 .aX nV O4) (oO (.o2 .le Rm (.il 1600)) aaO)))))))
abbrev aeQ : List Ob := oO (.o2 .lt CY (.o1 .ab E3)) (oO (.o2 .le CY iR) acv)
abbrev abm : List Ob := oO (.o2 .lt VZ (.o1 .ab E3)) (oO (.o2 .le VZ iR) (oO (.o2 .le CY iR) aeQ))
abbrev C8 : E := .uf 341 (eP E3 (eP nV Al))
abbrev YC : E := .uf 315 (eP nZ bp)
abbrev Sc : E := .o1 .ab (eC 2 YC m6)
abbrev YS : E := .uf 340 (eP (.v 0) (eP (.v 32) (eP Sc bp)))
abbrev adP : E := eP (.o2 .fj YS O3) bp
abbrev Ep : E := .uf 315 adP
abbrev ua : E := .o2 .add uN Sc
abbrev Ld : E := .o2 .add ua uN
abbrev SW : E := .o2 .aX (eC 0 Ep Ld) bp
abbrev SP : E := .o2 .aX (.o1 .ab (eC 2 Ep ua)) bp
abbrev NJ : E := .o2 .aX (.o1 .ab Ep) (.o2 .add ua nV)
abbrev S5 : E := .o2 .aX (.o1 .ab YC) uN
abbrev Ku : aa := fT S5 (fF (.v 32) Pu)
abbrev Td : aa := fT SP (fT NJ Ku)
abbrev D9 : E := eP nZ Al
abbrev Ub : List Ob := oO (.o2 .beq mO (.uf 314 D9)) (oO (.o2 .aX bp (.uf 311 D9)) (oT bp (.uf 312 D9) (oO (.o2 .aX (.o1 .ab (.uf 310 D9)) bp) (oT bp (.uf 313 D9) (oO (.o2 .seq jP (eC 10 nZ bp)) (oT bp (eC 9 nZ bp) (oO (.o2 .beq mO (eC 8 nZ bp)) (oO (.o2 .beq mO (eC 7 nZ bp)) (oO (.o2 .seq jP (eC 6 nZ bp)) (oT bp (eC 5 nZ bp) (oO (.o2 .seq jP (eC 4 nZ bp)) (oO (.o2 .seq jP (eC 3 nZ bp)) (oO (.o2 .seq jP (eC 2 nZ bp)) (oO (.o2 .seq jP (eC 1 nZ bp)) (oO (.o2 .aX (.il 6) (eC 0 nZ bp)) (oO (.uf 316 (eP nZ bp)) []))))))))))))))))
abbrev TA : List Ob := oO (.o2 .le (.o2 .add ua nV) iR) (oO (.o2 .le ua iR) (oO (.o2 .le (.o2 .add (.o1 .ab YS) nV) IY) (oO (.uf 316 adP) (oO (.o2 .le (.o1 .ab YS) TD) (oT nZ Mf (oO (.o2 .aX uN O4) (oO (.o2 .le Sc (.il 1600)) Ub)))))))
abbrev Sl : List Ob := oO (.o2 .lt ua (.o1 .ab Ep)) (oO (.o2 .le ua iR) TA)
abbrev SJ : List Ob := oO (.o2 .lt Ld (.o1 .ab Ep)) (oO (.o2 .le Ld iR) (oO (.o2 .le ua iR) Sl))
abbrev ux : E := .uf 341 (eP Ep (eP uN Al))
abbrev GL : E := .o2 .fj (.v 0) iI
abbrev Ie : E := .uf 315 (eP GL bp)
abbrev GW : E := .o1 .ab (eC 2 Ie m6)
abbrev Mg : E := .uf 340 (eP (.v 0) (eP (.v 32) (eP GW bp)))
abbrev Sr : E := eP (.o2 .fj Mg O3) bp
abbrev xq : E := .uf 315 Sr
abbrev zH : E := .o2 .add m6 nV
abbrev ug : E := .o2 .add zH GW
abbrev LS : E := .o2 .add ug uN
abbrev TS : E := .o2 .aX (eC 0 xq LS) bp
abbrev Sv : E := .o2 .aX (.o1 .ab (eC 2 xq ug)) bp
abbrev ML : E := .o2 .aX (.o1 .ab xq) (.o2 .add ug nV)
abbrev Tn : E := .o2 .aX (.o1 .ab Ie) zH
abbrev HD : aa := fF (.o2 .aX m6 bp) adD
abbrev Ou : aa := fT Tn (fT (.v 32) HD)
abbrev TV : aa := fT Sv (fT ML Ou)
abbrev DH : E := eP GL Al
abbrev wy : E := .o2 .add m6 uN
abbrev SO : List Ob := oO (.o2 .le m6 TD) (oO (.o2 .le m6 TD) [])
abbrev SC : List Ob := oO (.o2 .beq mO (.uf 314 DH)) (oO (.o2 .aX bp (.uf 311 DH)) (oT bp (.uf 312 DH) (oO (.o2 .aX (.o1 .ab (.uf 310 DH)) bp) (oT bp (.uf 313 DH) (oO (.o2 .le zH IY) (oO (.uf 316 (eP GL bp)) (oO (.o2 .le wy TD) SO)))))))
abbrev SI : List Ob := oO (.o2 .le (.o2 .add ug nV) iR) (oO (.o2 .le ug iR) (oO (.o2 .le (.o2 .add (.o1 .ab Mg) nV) IY) (oO (.uf 316 Sr) (oO (.o2 .le (.o1 .ab Mg) TD) (oT GL Mf (oO (.o2 .aX zH O4) (oO (.o2 .le GW (.il 1600)) (oO (.o2 .le m6 (.il 80)) (oO (.o2 .lt m6 (.o1 .ab Ie)) SC)))))))))
abbrev Tc : List Ob := oO (.o2 .lt ug (.o1 .ab xq)) (oO (.o2 .le ug iR) SI)
abbrev Tp : List Ob := oO (.o2 .lt LS (.o1 .ab xq)) (oO (.o2 .le LS iR) (oO (.o2 .le ug iR) Tc))
abbrev uA : E := .uf 341 (eP xq (eP zH Al))
abbrev Gy : E := .o2 .fj (.v 0) nZ
abbrev Hs : E := .uf 315 (eP Gy bp)
abbrev Hb : E := .o1 .ab (eC 2 Hs m6)
abbrev K0 : E := .uf 340 (eP (.v 0) (eP (.v 32) (eP Hb bp)))
abbrev T4 : E := eP (.o2 .fj K0 O3) bp
abbrev xf : E := .uf 315 T4
abbrev uk : E := .o2 .add wy Hb
abbrev NO : E := .o2 .add uk uN
abbrev Sk : E := .o2 .aX (eC 0 xf NO) bp
abbrev T7 : E := .o2 .aX (.o1 .ab (eC 2 xf uk)) bp
abbrev N1 : E := .o2 .aX (.o1 .ab xf) (.o2 .add uk nV)
abbrev SK : E := .o2 .aX (.o1 .ab Hs) wy
abbrev NU : aa := fT SK (fF (.v 32) HD)
abbrev TJ : aa := fT T7 (fT N1 NU)
abbrev B9 : E := eP Gy Al
abbrev Sg : List Ob := oO (.o2 .beq mO (.uf 314 B9)) (oO (.o2 .aX bp (.uf 311 B9)) (oT bp (.uf 312 B9) (oO (.o2 .aX (.o1 .ab (.uf 310 B9)) bp) (oT bp (.uf 313 B9) (oO (.o2 .le wy IY) (oO (.uf 316 (eP Gy bp)) SO))))))
abbrev TL : List Ob := oO (.o2 .le (.o2 .add uk nV) iR) (oO (.o2 .le uk iR) (oO (.o2 .le (.o2 .add (.o1 .ab K0) nV) IY) (oO (.uf 316 T4) (oO (.o2 .le (.o1 .ab K0) TD) (oT Gy Mf (oO (.o2 .aX wy O4) (oO (.o2 .le Hb (.il 1600)) (oO (.o2 .le m6 (.il 80)) (oO (.o2 .lt m6 (.o1 .ab Hs)) Sg)))))))))
abbrev S2 : List Ob := oO (.o2 .lt uk (.o1 .ab xf)) (oO (.o2 .le uk iR) TL)
abbrev SE : List Ob := oO (.o2 .lt NO (.o1 .ab xf)) (oO (.o2 .le NO iR) (oO (.o2 .le uk iR) S2))
abbrev ub : E := .uf 341 (eP xf (eP wy Al))
def XS : List (aa × List Ob) :=
 [(fT adJ ab4, oO mO abm),
  (fF adJ ab4, oO (.bl true) (oO (.o2 .beq mO (eC 7 C8 bp)) (oO (.o2 .beq mO (eC 6 C8 bp)) (oO (.o2 .seq jP (eC 5 C8 bp)) (oT bp (eC 4 C8 bp) (oO (.o2 .seq jP (eC 3 C8 bp)) (oO (.o2 .seq jP (eC 2 C8 bp)) (oO (.o2 .seq jP (eC 1 C8 bp)) (oO (.o2 .seq jP (eC 0 C8 bp)) (oO (.o2 .le Rm (.il 1600)) (oO (.uf 342 (eP E3 (eP nV (eP (eC 2 XD m6) bp)))) abm))))))))))),
  (fF acV (fT UN Yy), oO mO aeQ),
  (fF UN Yy, oO mO acv),
  (fF adC (fT (.v 32) Pu), oO mO aaO),
  (fT SW Td, oO mO SJ),
  (fF SW Td, oO (.bl true) (oO (.o2 .beq mO (eC 7 ux bp)) (oO (.o2 .beq mO (eC 6 ux bp)) (oO (.o2 .seq jP (eC 5 ux bp)) (oT bp (eC 4 ux bp) (oO (.o2 .seq jP (eC 3 ux bp)) (oO (.o2 .seq jP (eC 2 ux bp)) (oO (.o2 .seq jP (eC 1 ux bp)) (oO (.o2 .seq jP (eC 0 ux bp)) (oO (.o2 .le Sc (.il 1600)) (oO (.uf 342 (eP Ep (eP uN (eP (eC 2 YC m6) bp)))) SJ))))))))))),
  (fF SP (fT NJ Ku), oO mO Sl),
  (fF NJ Ku, oO mO TA),
  (fF S5 (fF (.v 32) Pu), oO mO Ub),
  (fT TS TV, oO mO Tp),
  (fF TS TV, oO (.bl true) (oO (.o2 .beq mO (eC 7 uA bp)) (oO (.o2 .beq mO (eC 6 uA bp)) (oO (.o2 .seq jP (eC 5 uA bp)) (oT bp (eC 4 uA bp) (oO (.o2 .seq jP (eC 3 uA bp)) (oO (.o2 .seq jP (eC 2 uA bp)) (oO (.o2 .seq jP (eC 1 uA bp)) (oO (.o2 .seq jP (eC 0 uA bp)) (oO (.o2 .le GW (.il 1600)) (oO (.uf 342 (eP xq (eP zH (eP (eC 2 Ie m6) bp)))) Tp))))))))))),
  (fF Sv (fT ML Ou), oO mO Tc),
  (fF ML Ou, oO mO SI),
  (fF Tn (fT (.v 32) HD), oO mO SC),
  (fT Sk TJ, oO mO SE),
  (fF Sk TJ, oO (.bl true) (oO (.o2 .beq mO (eC 7 ub bp)) (oO (.o2 .beq mO (eC 6 ub bp)) (oO (.o2 .seq jP (eC 5 ub bp)) (oT bp (eC 4 ub bp) (oO (.o2 .seq jP (eC 3 ub bp)) (oO (.o2 .seq jP (eC 2 ub bp)) (oO (.o2 .seq jP (eC 1 ub bp)) (oO (.o2 .seq jP (eC 0 ub bp)) (oO (.o2 .le Hb (.il 1600)) (oO (.uf 342 (eP xf (eP wy (eP (eC 2 Hs m6) bp)))) SE))))))))))),
  (fF T7 (fT N1 NU), oO mO S2),
  (fF N1 NU, oO mO TL),
  (fF SK (fF (.v 32) HD), oO mO Sg),
  (fF aeF (fT Uz WB), oO (.bl true) []),
  (fF Uz WB, oO (.bl true) [])]
end Go.Proofs.YtdlppkhmmclipaaGreat.sxObj
namespace Go.Proofs.YtdlppkhmmclipaaGreat.sxObj
open Go.Sx Go.RowKit Go.Proofs.YtdlppkhmmclipaaGreat
set_option linter.unusedVariables false
set_option linter.unusedSimpArgs false
set_option maxRecDepth 100000
set_option maxHeartbeats 4000000
theorem abA {A : Dv} {f i : Nat} : row (cc (row A (f + i)) 2) 0 = kV A f i := id rfl
theorem Zc {A : Dv} {f i : Nat} : row (.t [qg A f i]) 0 = qg A f i := id rfl
theorem Oh {x : Row} : iP (cc x 0).S (cc x 1).S = kO x := id rfl
theorem Wd {A : Dv} {f i : Nat} : qg A f (i + 1) = kV A f i := id rfl
theorem MG {A S : Dv} {f r : Nat} (C : C9 A f S) (hr : r <= S.T.length) : (cc (qg A f r) 6).B = false /\ iD (qg A f r) := by
 cases r with
 | zero => exact ⟨rfl, (by decide : 0 <= 2147483647), (by decide : 0 <= 2147483647), (by decide : 0 <= 2147483647)⟩
 | succ n =>
   have := C.c n (by omega)
   exact ⟨this.b, this.o⟩
theorem RT {A S : Dv} {f r : Nat} (c : adp A f S r) (h : 0 < r) : cA (cc (kV A f r) 5).S (cc (qg A f r) 5).S = false /\ ((cc (kV A f r) 5).S.toList = (cc (qg A f r) 5).S.toList -> cA (kO (qg A f r)) (kO (kV A f r)) = true) := by
 have := c.l h; cases r with
 | zero => omega
 | succ n => exact this
section
variable {o : Env}
theorem P4 (hq : OO o) {r : Nat} (hr : o.v 2222 = .i r) (hent : (Lw.aV 0).aB o) (hle : (r : Int) <= ((aH (.v 7872)).den o).I) : br o VH := by
 simp only [Lw, W1, cX, aH, pk, List.foldr, SS, implies_true] at hent hle; simp only [VH, al, av, and_true]
 and_intros
 all_goals intro h
 all_goals simp only [SS, implies_true, hr, hq.all] at h ⊢
 ·have e := @A4 (o.v 7870).T (o.v 7871).B; have e1 := @m7 (o.v 7870).T (o.v 7871).B; have e2 : (if (o.v 7871).B = true then 1 else 0) <= 1 := by split <;> decide
  have e3 := e (r := r); have e4 := e (r := r + 1); exact ⟨by omega, by omega, acT⟩
 ·have e : r = (o.v 7872).T.length := by omega
  rw [e]; exact ⟨rfl, rfl⟩
theorem PE (hu : OU o) (hq : OO o) {r : Nat} (hr : o.v 2223 = .i r) (hent : (M6.aV 0).aB o) (hle : (r : Int) <= ((aH (.v 7876)).den o).I) : br o X5 := by
 simp only [M6, Yp, cX, aH, pk, List.foldr, SS, implies_true, hq.all, aw] at hent hle; obtain ⟨⟨f0, C⟩, fl⟩ := hent; simp only [X5, al, av, and_true]
 and_intros
 all_goals intro h
 all_goals simp only [SS, implies_true, hr, hu.qE, hu.Nt, hu.U9, hu.mr, hu.Ab, hq.all, aw] at h ⊢
 all_goals have hl : r < (o.v 7876).T.length := by omega
 all_goals have ef : ((o.v 7877).I + (r : Int)).toNat = (o.v 7877).I.toNat + r := by omega
 all_goals have c := C.c r hl
 all_goals have ll := RT c
 all_goals obtain ⟨c1, c2, c3, c4, c5, c6, _⟩ := c
 all_goals obtain ⟨k1, k2⟩ := MG C (r := r) (by omega)
 all_goals simp only [ef, abA, Zc, Oh, Wd] at h ⊢
 all_goals simp only [Oh] at c5 c6
 all_goals try (simp only [c1, c3, c5, k1, Bool.false_eq_true, Bool.true_eq_false, false_and, and_false] at h; done)
 all_goals first
  | (have := (ll (by omega)).1; rw [h.1] at this; cases this; done)
  | (have := (ll (by omega)).2 h.2.1; rw [h.1] at this; cases this; done)
  | skip
 all_goals have hat := Bd c5
 all_goals have Cn := C.n
 all_goals have Cs := C.s
 all_goals have Co := C.o
 all_goals try simp only [c6]
 all_goals repeat' refine And.intro ?_ ?_
 all_goals first
  | rfl
  | trivial
  | omega
  | exact Co
  | exact c4.1
  | exact c4.2.1
  | exact c4.2.2
  | exact k2.1
  | exact k2.2.1
  | exact k2.2.2
  | exact Int.ofNat_le.2 c4.2.2
theorem agC : [[Dv.i 6, Dv.s ⟨[].toArray⟩, Dv.s ⟨[].toArray⟩, Dv.s ⟨[].toArray⟩, Dv.s ⟨[].toArray⟩, Dv.i 0, Dv.s ⟨[].toArray⟩, Dv.b false, Dv.b false, Dv.i 0, Dv.s ⟨[].toArray⟩]] ++ [[Dv.i 5, Dv.s ⟨[].toArray⟩, Dv.s ⟨[].toArray⟩, Dv.s ⟨[].toArray⟩, Dv.s ⟨[].toArray⟩, Dv.i 0, Dv.s ⟨[].toArray⟩, Dv.b false, Dv.b false, Dv.i 0, Dv.s ⟨[].toArray⟩]] = [dj 6, dj 5] := id rfl
theorem af3 : [[Dv.i 6, Dv.s ⟨[].toArray⟩, Dv.s ⟨[].toArray⟩, Dv.s ⟨[].toArray⟩, Dv.s ⟨[].toArray⟩, Dv.i 0, Dv.s ⟨[].toArray⟩, Dv.b false, Dv.b false, Dv.i 0, Dv.s ⟨[].toArray⟩]] ++ [[Dv.i 9, Dv.s ⟨[].toArray⟩, Dv.s ⟨[].toArray⟩, Dv.s ⟨[].toArray⟩, Dv.s ⟨[].toArray⟩, Dv.i 0, Dv.s ⟨[].toArray⟩, Dv.b false, Dv.b false, Dv.i 0, Dv.s ⟨[].toArray⟩]] = [dj 6, dj 9] := id rfl
theorem g_6 : [[Dv.i 6, Dv.s ⟨[].toArray⟩, Dv.s ⟨[].toArray⟩, Dv.s ⟨[].toArray⟩, Dv.s ⟨[].toArray⟩, Dv.i 0, Dv.s ⟨[].toArray⟩, Dv.b false, Dv.b false, Dv.i 0, Dv.s ⟨[].toArray⟩]] = [dj 6] := id rfl
theorem g_9 : [[Dv.i 9, Dv.s ⟨[].toArray⟩, Dv.s ⟨[].toArray⟩, Dv.s ⟨[].toArray⟩, Dv.s ⟨[].toArray⟩, Dv.i 0, Dv.s ⟨[].toArray⟩, Dv.b false, Dv.b false, Dv.i 0, Dv.s ⟨[].toArray⟩]] = [dj 9] := id rfl
theorem ago : O2.den .bT (.i 6) (O2.den .bT (.s ⟨[].toArray⟩) (O2.den .bT (.s ⟨[].toArray⟩) (O2.den .bT (.s ⟨[].toArray⟩) (O2.den .bT (.s ⟨[].toArray⟩) (O2.den .bT (.i 0) (O2.den .bT (.s ⟨[].toArray⟩) (O2.den .bT (.b false) (O2.den .bT (.b false) (O2.den .bT (.i 0) (O2.den .bT (.s ⟨[].toArray⟩) (.i 0))))))))))) = .t [dj 6] := id rfl
theorem soA {ops : List Row} {c : Bool} (hc : c = true) (h0 : ops = []) : [dj 6, dj 9] = jS ops c := by subst hc h0; rfl
theorem soB {ops : List Row} {c : Bool} (hc : c = false) (h0 : ops = []) : [dj 6] = jS ops c := by subst hc h0; rfl
theorem soC {ops : List Row} {c : Bool} (hc : c = true) : ops ++ [dj 6, dj 9] = jS ops c := by subst hc; rfl
theorem soD {ops : List Row} {c : Bool} (hc : c = false) : ops ++ [dj 6] = jS ops c := by subst hc; rfl
structure Hst (l : Dv) (c : Bool) (P : List Row) (N : Int) : Prop where
 l1 : ((bL (.t P)).length : Int) = N
 l2 : ((bL (.t (yE l.T c (cc (row (.t (bL (.t P))) l.T.length) 2).T.length ++ [dj 6, dj 5]))).length : Int) = N + ((cc (row (.t (bL (.t P))) l.T.length) 2).T.length : Nat) + 2
 l3 : (cc (row (.t (bL (.t (yE l.T c (cc (row (.t (bL (.t P))) l.T.length) 2).T.length ++ [dj 6, dj 5])))) (N + ((cc (row (.t (bL (.t P))) l.T.length) 2).T.length : Nat)).toNat) 2).T.length = 0
 l4 : ¬ (cc (row (.t (bL (.t (yE l.T c (cc (row (.t (bL (.t P))) l.T.length) 2).T.length ++ [dj 6, dj 5])))) (N + ((cc (row (.t (bL (.t P))) l.T.length) 2).T.length : Nat) + 1).toNat) 0).I = 0
 l5 : C9 (.t (bL (.t (yE l.T c (cc (row (.t (bL (.t P))) l.T.length) 2).T.length ++ [dj 6, dj 5])))) N.toNat (cc (row (.t (bL (.t P))) l.T.length) 2)
 l6 : gH (.t P)
 l7 : gH (.t (yE l.T c (cc (row (.t (bL (.t P))) l.T.length) 2).T.length ++ [dj 6, dj 5]))
 l8 : ((cc (row (.t (bL (.t P))) l.T.length) 2).T.length : Int) <= 1600
 l9 : P = yE l.T c 0
 l10 : ((yE l.T c (cc (row (.t (bL (.t P))) l.T.length) 2).T.length).length : Int) + 2 <= 2000
 l11 : N = ((yE l.T c 0).length : Nat)
 n : N = (P.length : Nat)
 n0 : P.length = l.T.length + 1 + (if c = true then 1 else 0)
theorem Bt {l : Dv} {c : Bool} {P : List Row} {N : Int} (hP : P = jS l.T c) (hN : N = (P.length : Nat)) (hf : gH l) (hl : l.T.length <= 80) : Hst l c P N := by
 subst hP; have hf2 : gH (.t l.T) := hf; obtain ⟨gg, go, gl, _⟩ := rR hf2 l.T.length (Nat.le_refl _); have gg : Good (cV l.T) := gg; have go : ew (cV l.T) := go; have gl : (cV l.T).length <= 20 * l.T.length := gl; have eS : cc (row (.t (bL (.t (jS l.T c)))) l.T.length) 2 = .t (cV l.T) := by rw [Nq]; rfl
 have eW : yE l.T c (cV l.T).length ++ [dj 6, dj 5] = nN l.T c (cV l.T).length := rfl; have eN : N.toNat = (jS l.T c).length := by omega
 have lP := @m7 l.T c; have l2 : (if c = true then 1 else 0) <= 1 := by split <;> decide
 have lW := @pV l.T c (cV l.T).length; refine ⟨?_, ?_, ?_, ?_, ?_, Nf hf2 hl, ?_, ?_, Th.symm, ?_, by rw [Th]; exact hN, hN, lP⟩
 ·rw [hN]; exact congrArg Int.ofNat mD
 ·rw [eS]; show ((bL (.t (nN l.T c (cV l.T).length))).length : Int) = _; have : (bL (.t (nN l.T c (cV l.T).length))).length = (nN l.T c (cV l.T).length).length := mD; show _ = N + ((cV l.T).length : Int) + 2; omega
 ·rw [eS]; show (cc (row (.t (bL (.t (nN l.T c (cV l.T).length)))) (N + ((cV l.T).length : Int)).toNat) 2).T.length = 0; rw [show (N + ((cV l.T).length : Int)).toNat = (jS l.T c).length + (cV l.T).length by omega, Ro gg rfl]; rfl
 ·rw [eS]; show ¬ (cc (row (.t (bL (.t (nN l.T c (cV l.T).length)))) (N + ((cV l.T).length : Int) + 1).toNat) 0).I = 0; rw [show (N + ((cV l.T).length : Int) + 1).toNat = (jS l.T c).length + (cV l.T).length + 1 by omega]
  exact N2 gg rfl
 ·rw [eS, eN]; exact QI gg go rfl (show (nN l.T c (cV l.T).length).length <= 1000000 by omega)
 ·rw [eS]; exact Ma hf2 hl (show (cV l.T).length <= 1600 by omega)
 ·rw [eS]; show ((cV l.T).length : Int) <= 1600; omega
 ·rw [eS]; have := @A4 l.T c (cV l.T).length; show ((yE l.T c (cV l.T).length).length : Int) + 2 <= 2000; omega
theorem P2 (hu : OU o) (hj : OJ o) (hg : OG o) (hq : OO o) : br o XS := by
 simp only [XS, al, av, and_true]
 and_intros
 all_goals intro h
 all_goals simp only [SS, implies_true, hj.hp, hg.all, hq.all, aw, da, Classical.not_not] at h ⊢
 all_goals try (trivial; done)
 all_goals try simp only [agC, af3, ago] at h ⊢
 all_goals try simp only [g_6, g_9] at h ⊢
 all_goals have hgood : xw (o.v 0) := by first | exact h.2.2.2.2.2.2.1 | exact h.2.2.2.2.2.1 | exact h.2.2.2.2.1 | exact h.2.2.2.1 | exact h.2.2.1
 all_goals have hfits : vK (o.v 0) := by first | exact h.2.2.2.2.2.2.2.1 | exact h.2.2.2.2.2.2.1 | exact h.2.2.2.2.2.1 | exact h.2.2.2.2.1 | exact h.2.2.2.1
 all_goals have hf := MH hfits hgood
 all_goals have hl := hgood.2
 all_goals first
  | have hc : (o.v 32).B = true := by first | exact h.2.2.2.2.1 | exact h.2.2.2.1 | exact h.2.2.1 | exact h.2.1 | exact h.1
  | have hc : (o.v 32).B = false := by first | exact h.2.2.2.2.1 | exact h.2.2.2.1 | exact h.2.2.1 | exact h.2.1 | exact h.1
 all_goals first
  | have H : Hst (o.v 0) (o.v 32).B [dj 6, dj 9] 2 := Bt (soA hc (List.length_eq_zero_iff.1 (by omega))) rfl hf hl
  | have H : Hst (o.v 0) (o.v 32).B [dj 6] 1 := Bt (soB hc (List.length_eq_zero_iff.1 (by omega))) rfl hf hl
  | have H : Hst (o.v 0) (o.v 32).B ((o.v 0).T ++ [dj 6, dj 9]) (((o.v 0).T.length : Int) + 2) := Bt (soC hc) (by rw [List.length_append]; rfl) hf hl
  | have H : Hst (o.v 0) (o.v 32).B ((o.v 0).T ++ [dj 6]) (((o.v 0).T.length : Int) + 1) := Bt (soD hc) (by rw [List.length_append]; rfl) hf hl
 all_goals first
  | exact absurd h.1 H.l4
  | exact absurd (congrArg Int.ofNat H.l3) h.1
  | exact absurd H.l2 h.1
  | exact absurd H.l1 h.1
  | skip
 all_goals have Hn := H.n
 all_goals have Hn0 := H.n0
 all_goals have H8 := H.l8
 all_goals have H1 := H.l1
 all_goals have H2 := H.l2
 all_goals have H5 := H.l5
 all_goals have H6 := H.l6
 all_goals have H7 := H.l7
 all_goals obtain ⟨H6a, H6b⟩ := H.l6
 all_goals obtain ⟨H7a, H7b⟩ := H.l7
 all_goals have H9 := H.l9
 all_goals have H10 := H.l10
 all_goals have H11 := H.l11
 all_goals repeat' refine And.intro ?_ ?_
 all_goals first
  | omega
  | with_reducible exact H5
  | with_reducible exact H6
  | with_reducible exact H7
  | with_reducible exact H9
  | with_reducible exact H9.symm
  | with_reducible rfl
  | trivial
  | with_reducible exact H6a
  | with_reducible exact H6b
  | with_reducible exact H7a
  | with_reducible exact H7b
  | with_reducible exact H11
end
end Go.Proofs.YtdlppkhmmclipaaGreat.sxObj
namespace Go.Proofs.YtdlppkhmmclipaaGreat.sxObj
open Go.Sx
set_option linter.unusedVariables false
set_option maxRecDepth 100000
abbrev op0 : E := eC 5 (.v 7700) (.v 7701)
abbrev op1 : E := eC 5 (.v 7702) (.v 7703)
abbrev au : E := .il 0
abbrev op3 : E := .uf 100 (eP (eC 0 (.v 7700) (.v 7701)) (eP (eC 1 (.v 7700) (.v 7701)) au))
abbrev op4 : E := .uf 100 (eP (eC 0 (.v 7702) (.v 7703)) (eP (eC 1 (.v 7702) (.v 7703)) au))
abbrev op5 : E := .uf 280 (eP op0 (eP op3 (eP op1 (eP op4 au))))
def Lu : List (aa × List Ob) :=
 [(fT (.o2 .seq op0 op1) [], oO (.o2 .beq (.o2 .slt op3 op4) op5) []),
  (fF (.o2 .seq op0 op1) [], oO (.o2 .beq (.o2 .slt op0 op1) op5) [])]
abbrev xD : E := .v 7711
abbrev op7 : E := eP (.v 7710) (eP xD (eP (.v 7712) (eP (.v 7713) (eP (.v 2200) au))))
abbrev qA : E := .uf 283 op7
abbrev op9 : E := .o2 .sub qA (.il 1)
abbrev fg : E := .o2 .quo op9 (.il 2)
abbrev yD : E := .il 9223372036854775807
abbrev qR : E := .il (-9223372036854775808)
abbrev LD : E := .uf 282 op7
abbrev Xj : E := eP (.v 7710) (eP xD (eP (.v 7712) (eP (.v 7713) au)))
abbrev nU : E := .uf 281 op7
abbrev ZY : List Ob := oT LD (.uf 286 Xj) (oT nU (.uf 285 Xj) [])
abbrev WC : List Ob := oO (.o2 .le qR op9) ZY
abbrev aaI : aa := fF (.o2 .aX fg qA) []
abbrev abE : aa := fF (.o2 .lt (.v 7714) qA) aaI
abbrev W6 : E := .o2 .fA (.o2 .fA nU (eP fg (eP (eC 0 nU qA) au))) (eP qA (eP (eC 0 nU fg) au))
abbrev U6 : E := .o2 (.mf .s) xD (eC 0 W6 qA)
abbrev VQ : E := .o2 (.mf .s) xD (eC 0 W6 fg)
abbrev BC : E := .o2 (.mf .s) xD (eC 0 nU qA)
abbrev wM : E := eC 0 LD (eC 1 xD BC)
abbrev BW : E := .o2 (.mf .s) xD (eC 0 nU fg)
abbrev ya : E := eC 0 LD (eC 1 xD BW)
abbrev Uw : E := .uf 280 (eP (eC 5 wM au) (eP (.uf 100 (eP (eC 0 wM au) (eP (eC 1 wM au) au))) (eP (eC 5 ya au) (eP (.uf 100 (eP (eC 0 ya au) (eP (eC 1 ya au) au))) au))))
abbrev ab9 : aa := fF (.o2 .lt (.v 7714) fg) abE
abbrev adI : aa := fT (.o2 .le au BC) ab9
abbrev XJ : aa := fT (.o2 .le au BW) adI
abbrev aeA : aa := fT (.o2 .le au VQ) (fT Uw XJ)
abbrev LM : E := eC 1 xD U6
abbrev Nx : E := eC 1 xD VQ
abbrev Y5 : E := eP (.v 7710) (eP xD (eP (.v 7712) (eP (.v 7713) (eP (.o2 .add (.v 2200) (.il 1)) au))))
abbrev aas : E := .o2 .fA LD (eP Nx (eP (eC 0 LD Nx) (eP fg au)))
abbrev uG : List Ob := oO (.bl false) []
abbrev acB : List Ob := oO (.o2 .lt qA (.o1 .ab nU)) (oO (.o2 .le au qA) (oO (.o2 .lt qA (.v 7714)) (oO (.o2 .le au qA) (oO (.o2 .le qR fg) WC))))
abbrev aep : List Ob := oO (.o2 .lt fg (.o1 .ab nU)) (oO (.o2 .le au fg) (oO (.o2 .lt fg (.v 7714)) (oO (.o2 .le au fg) acB)))
def upL : List (aa × List Ob) :=
 [(fT (.o2 .aX fg qA) [], oO (.o2 .le fg yD) (oO (.o2 .le qR fg) (oO (.o2 .le op9 yD) WC))),
  (fT (.o2 .lt (.v 7714) qA) aaI, oO (.o2 .le fg yD) (oO (.o2 .le qR fg) (oO (.o2 .le op9 yD) ZY))),
  (fT (.o2 .lt (.v 7714) fg) abE, oO (.o2 .le fg yD) WC),
  (fT (.o2 .le au U6) aeA, oO (.o2 .lt (.v 2200) (.uf 284 Xj)) (oO (.o2 .le au LM) (oO (.o2 .le au LM) (oO (.o2 .le au LM) (oO (.o2 .lt qA (.o1 .ab nU)) (oO (.o2 .le au qA) (oO (.o2 .lt qA (.v 7714)) (oO (.o2 .le au qA) (oO (.o2 .le au Nx) (oO (.o2 .le au Nx) (oO (.o2 .le au Nx) (oO (.o2 .lt fg (.o1 .ab nU)) (oO (.o2 .le au fg) (oO (.o2 .lt fg (.v 7714)) (oO (.o2 .le au fg) (oO (.o2 .lt qA (.o1 .ab nU)) (oO (.o2 .lt qA (.o1 .ab nU)) (oO (.o2 .le au qA) (oO (.o2 .lt qA (.v 7714)) (oO (.o2 .le au qA) (oO (.o2 .lt fg (.o1 .ab nU)) (oO (.o2 .lt fg (.o1 .ab nU)) (oO (.o2 .le au fg) (oO (.o2 .lt fg (.v 7714)) (oO (.o2 .le au fg) (oO (.o2 .lt fg (.o1 .ab nU)) (oO (.o2 .le au fg) (oO (.o2 .lt fg (.v 7714)) (oO (.o2 .le au fg) (oO (.o2 .lt qA (.o1 .ab nU)) (oO (.o2 .le au qA) (oO (.o2 .lt qA (.v 7714)) (oO (.o2 .le au qA) (oO (.o1 .not (eC 6 ya au)) (oO (.o1 .not (eC 6 wM au)) (oO (.uf 110 (eP (eC 0 ya au) (eP (eC 1 ya au) (eP (eC 4 ya au) au)))) (oO (.uf 110 (eP (eC 0 wM au) (eP (eC 1 wM au) (eP (eC 4 wM au) au)))) (oO (.o2 .le au (eC 1 xD BW)) (oO (.o2 .le au (eC 1 xD BW)) (oO (.o2 .le au (eC 1 xD BW)) (oO (.o2 .le au (eC 1 xD BC)) (oO (.o2 .le au (eC 1 xD BC)) (oO (.o2 .le au (eC 1 xD BC)) (oO (.o2 .lt fg (.o1 .ab nU)) (oO (.o2 .le au fg) (oO (.o2 .lt fg (.v 7714)) (oO (.o2 .le au fg) (oO (.o2 .lt qA (.o1 .ab nU)) (oO (.o2 .le au qA) (oO (.o2 .lt qA (.v 7714)) (oO (.o2 .le au qA) (oO (.o2 .le qR fg) (oO (.o2 .le qR op9) (oO (.o2 .aX fg (.uf 283 Y5)) (oT (.o2 .fA aas (eP LM (eP (eC 0 aas LM) (eP qA au)))) (.uf 282 Y5) (oT W6 (.uf 281 Y5) [])))))))))))))))))))))))))))))))))))))))))))))))))))))))),
  (fF (.o2 .le au U6) aeA, uG),
  (fF (.o2 .le au VQ) (fT Uw XJ), uG),
  (fF Uw XJ, oO (.o1 .not (eC 6 ya au)) (oO (.o1 .not (eC 6 wM au)) (oO (.uf 110 (eP (eC 0 ya au) (eP (eC 1 ya au) (eP (eC 4 ya au) au)))) (oO (.uf 110 (eP (eC 0 wM au) (eP (eC 1 wM au) (eP (eC 4 wM au) au)))) (oO (.o2 .le au (eC 1 xD BW)) (oO (.o2 .le au (eC 1 xD BW)) (oO (.o2 .le au (eC 1 xD BW)) (oO (.o2 .le au (eC 1 xD BC)) (oO (.o2 .le au (eC 1 xD BC)) (oO (.o2 .le au (eC 1 xD BC)) aep)))))))))),
  (fF (.o2 .le au BW) adI, aep),
  (fF (.o2 .le au BC) ab9, acB)]
abbrev bu : E := .v 7721
abbrev VO : E := eP (.v 7720) (eP bu (eP (.v 7722) (eP (.v 7723) (eP (.v 7724) (eP (.v 2201) au)))))
abbrev ba : E := .uf 293 VO
abbrev EV : E := .o2 .mul (.il 2) ba
abbrev cH : E := .o2 .add EV (.il 1)
abbrev EY : E := eP (.v 7720) (eP bu (eP (.v 7722) (eP (.v 7723) (eP (.v 7724) au))))
abbrev Ci : E := .uf 292 VO
abbrev cp : E := .uf 291 VO
abbrev Z7 : List Ob := oO (.o2 .aX ba (.uf 297 EY)) (oT Ci (.uf 296 EY) (oT cp (.uf 295 EY) []))
abbrev XQ : List Ob := oO (.o2 .le qR EV) Z7
abbrev Kz : List Ob := oO (.o2 .le EV yD) XQ
abbrev abc : aa := fF (.o2 .le (.v 7724) cH) []
abbrev cd : E := .v 7725
abbrev cP : E := .o2 .add EV (.il 2)
abbrev aap : aa := fF (.o2 .lt cH au) abc
abbrev abq : aa := fT (.o2 .lt cP (.v 7724)) aap
abbrev aec : aa := fT (.o2 .lt cd cP) abq
abbrev abn : aa := fF (.o2 .lt cd cH) aec
abbrev W9 : List Ob := oO (.o2 .le EV yD) Z7
abbrev ZI : E := eP (eC 0 cp ba) au
abbrev UR : E := .o2 .fA (.o2 .fA cp (eP ba (eP (eC 0 cp cH) au))) (eP cH ZI)
abbrev Bu : E := .o2 (.mf .s) bu (eC 0 UR cH)
abbrev BN : E := .o2 (.mf .s) bu (eC 0 UR ba)
abbrev eX : E := .o2 (.mf .s) bu (eC 0 cp cH)
abbrev dX : E := eC 0 Ci (eC 1 bu eX)
abbrev aba : E := .uf 100 (eP (eC 0 dX au) (eP (eC 1 dX au) au))
abbrev fP : E := .o2 (.mf .s) bu (eC 0 cp ba)
abbrev fI : E := eC 0 Ci (eC 1 bu fP)
abbrev ZB : E := eP (eC 5 fI au) (eP (.uf 100 (eP (eC 0 fI au) (eP (eC 1 fI au) au))) au)
abbrev uH : E := .uf 280 (eP (eC 5 dX au) (eP aba ZB))
abbrev aaB : aa := fF (.o2 .lt cd ba) abn
abbrev aeG : aa := fT (.o2 .le au eX) aaB
abbrev WT : aa := fT (.o2 .le au fP) aeG
abbrev abN : aa := fT (.o2 .le au BN) (fT uH WT)
abbrev xh : E := eC 1 bu Bu
abbrev vZ : E := eC 1 bu BN
abbrev Jc : E := eP (.v 7720) (eP bu (eP (.v 7722) (eP (.v 7723) (eP (.v 7724) (eP (.o2 .add (.v 2201) (.il 1)) au)))))
abbrev acs : E := .o2 .fA Ci (eP vZ (eP (eC 0 Ci vZ) (eP ba au)))
abbrev acW : List Ob := oO (.o2 .le qR EV) (oO (.o2 .aX cH (.uf 293 Jc)) (oT (.o2 .fA acs (eP xh (eP (eC 0 acs xh) (eP cH au)))) (.uf 292 Jc) (oT UR (.uf 291 Jc) [])))
abbrev acd : List Ob := oO (.o2 .lt (.v 2201) (.uf 294 EY)) (oO (.o2 .le au xh) (oO (.o2 .le au xh) (oO (.o2 .le au xh) (oO (.o2 .lt cH (.o1 .ab cp)) (oO (.o2 .lt cH cd) (oO (.o2 .le au vZ) (oO (.o2 .le au vZ) (oO (.o2 .le au vZ) (oO (.o2 .lt ba (.o1 .ab cp)) (oO (.o2 .le au ba) (oO (.o2 .lt ba cd) (oO (.o2 .le au ba) (oO (.o2 .lt cH (.o1 .ab cp)) (oO (.o2 .lt cH (.o1 .ab cp)) (oO (.o2 .lt cH cd) (oO (.o2 .lt ba (.o1 .ab cp)) (oO (.o2 .lt ba (.o1 .ab cp)) (oO (.o2 .le au ba) (oO (.o2 .lt ba cd) (oO (.o2 .le au ba) (oO (.o2 .lt ba (.o1 .ab cp)) (oO (.o2 .le au ba) (oO (.o2 .lt ba cd) (oO (.o2 .le au ba) (oO (.o2 .lt cH (.o1 .ab cp)) (oO (.o2 .lt cH cd) (oO (.o1 .not (eC 6 fI au)) (oO (.o1 .not (eC 6 dX au)) (oO (.uf 110 (eP (eC 0 fI au) (eP (eC 1 fI au) (eP (eC 4 fI au) au)))) (oO (.uf 110 (eP (eC 0 dX au) (eP (eC 1 dX au) (eP (eC 4 dX au) au)))) (oO (.o2 .le au (eC 1 bu fP)) (oO (.o2 .le au (eC 1 bu fP)) (oO (.o2 .le au (eC 1 bu fP)) (oO (.o2 .le au (eC 1 bu eX)) (oO (.o2 .le au (eC 1 bu eX)) (oO (.o2 .le au (eC 1 bu eX)) (oO (.o2 .lt ba (.o1 .ab cp)) (oO (.o2 .le au ba) (oO (.o2 .lt ba cd) (oO (.o2 .le au ba) (oO (.o2 .lt cH (.o1 .ab cp)) (oO (.o2 .lt cH cd) acW))))))))))))))))))))))))))))))))))))))))))
abbrev UQ : List Ob := oO (.o2 .lt cH (.o1 .ab cp)) (oO (.o2 .lt cH cd) XQ)
abbrev WV : List Ob := oO (.o2 .lt ba (.o1 .ab cp)) (oO (.o2 .le au ba) (oO (.o2 .lt ba cd) (oO (.o2 .le au ba) UQ)))
abbrev ad7 : List Ob := oO (.o1 .not (eC 6 fI au)) (oO (.o1 .not (eC 6 dX au)) (oO (.uf 110 (eP (eC 0 fI au) (eP (eC 1 fI au) (eP (eC 4 fI au) au)))) (oO (.uf 110 (eP (eC 0 dX au) (eP (eC 1 dX au) (eP (eC 4 dX au) au)))) (oO (.o2 .le au (eC 1 bu fP)) (oO (.o2 .le au (eC 1 bu fP)) (oO (.o2 .le au (eC 1 bu fP)) (oO (.o2 .le au (eC 1 bu eX)) (oO (.o2 .le au (eC 1 bu eX)) (oO (.o2 .le au (eC 1 bu eX)) WV)))))))))
abbrev abo : aa := fF (.o2 .lt cd cP) abq
abbrev lU : E := .o2 (.mf .s) bu (eC 0 cp cP)
abbrev iy : E := eC 0 Ci (eC 1 bu lU)
abbrev aeo : E := .uf 100 (eP (eC 0 iy au) (eP (eC 1 iy au) au))
abbrev OW : E := .uf 280 (eP (eC 5 iy au) (eP aeo (eP (eC 5 dX au) (eP aba au))))
abbrev aey : aa := fF (.o2 .lt cd cH) abo
abbrev aaP : aa := fT (.o2 .le au lU) aey
abbrev QQ : aa := fT (.o2 .le au eX) aaP
abbrev abr : List Ob := oO (.o2 .lt cP (.o1 .ab cp)) (oO (.o2 .le au cP) (oO (.o2 .lt cP cd) (oO (.o2 .le au cP) (oO (.o2 .le qR cP) W9))))
abbrev adv : List Ob := oO (.o2 .lt cH (.o1 .ab cp)) (oO (.o2 .lt cH cd) abr)
abbrev acj : List Ob := oO (.o1 .not (eC 6 dX au)) (oO (.o1 .not (eC 6 iy au)) (oO (.uf 110 (eP (eC 0 dX au) (eP (eC 1 dX au) (eP (eC 4 dX au) au)))) (oO (.uf 110 (eP (eC 0 iy au) (eP (eC 1 iy au) (eP (eC 4 iy au) au)))) (oO (.o2 .le au (eC 1 bu eX)) (oO (.o2 .le au (eC 1 bu eX)) (oO (.o2 .le au (eC 1 bu eX)) (oO (.o2 .le au (eC 1 bu lU)) (oO (.o2 .le au (eC 1 bu lU)) (oO (.o2 .le au (eC 1 bu lU)) adv)))))))))
abbrev YX : E := .o2 .fA (.o2 .fA cp (eP ba (eP (eC 0 cp cP) au))) (eP cP ZI)
abbrev Yc : E := .o2 (.mf .s) bu (eC 0 YX cP)
abbrev UY : E := .o2 (.mf .s) bu (eC 0 YX ba)
abbrev UL : E := .uf 280 (eP (eC 5 iy au) (eP aeo ZB))
abbrev aaK : aa := fF (.o2 .lt cd ba) (fT OW QQ)
abbrev Vv : aa := fT (.o2 .le au fP) aaK
abbrev Zs : aa := fT (.o2 .le au UY) (fT UL Vv)
abbrev D4 : E := eC 1 bu Yc
abbrev Dw : E := eC 1 bu UY
abbrev Sw : E := .o2 .fA Ci (eP Dw (eP (eC 0 Ci Dw) (eP ba au)))
abbrev Hi : List Ob := oO (.o2 .lt cH (.o1 .ab cp)) (oO (.o2 .lt cH cd) (oO (.o2 .lt cP (.o1 .ab cp)) (oO (.o2 .le au cP) (oO (.o2 .lt cP cd) (oO (.o2 .le au cP) (oO (.o2 .le qR cP) XQ))))))
abbrev SR : List Ob := oO (.o1 .not (eC 6 dX au)) (oO (.o1 .not (eC 6 iy au)) (oO (.uf 110 (eP (eC 0 dX au) (eP (eC 1 dX au) (eP (eC 4 dX au) au)))) (oO (.uf 110 (eP (eC 0 iy au) (eP (eC 1 iy au) (eP (eC 4 iy au) au)))) (oO (.o2 .le au (eC 1 bu eX)) (oO (.o2 .le au (eC 1 bu eX)) (oO (.o2 .le au (eC 1 bu eX)) (oO (.o2 .le au (eC 1 bu lU)) (oO (.o2 .le au (eC 1 bu lU)) (oO (.o2 .le au (eC 1 bu lU)) Hi)))))))))
abbrev TI : List Ob := oO (.o2 .lt ba (.o1 .ab cp)) (oO (.o2 .le au ba) (oO (.o2 .lt ba cd) (oO (.o2 .le au ba) (oO (.o2 .lt cP (.o1 .ab cp)) (oO (.o2 .le au cP) (oO (.o2 .lt cP cd) (oO (.o2 .le au cP) SR)))))))
abbrev SH : aa := fF (.o2 .lt cd ba) (fF OW QQ)
abbrev N7 : aa := fT (.o2 .le au fP) SH
abbrev Tt : aa := fT (.o2 .le au BN) (fT uH N7)
abbrev Sn : List Ob := oO (.o2 .lt cH (.o1 .ab cp)) (oO (.o2 .lt cH cd) (oO (.o2 .lt cP (.o1 .ab cp)) (oO (.o2 .le au cP) (oO (.o2 .lt cP cd) (oO (.o2 .le au cP) (oO (.o2 .le qR cP) acW))))))
abbrev Sf : List Ob := oO (.o2 .lt ba (.o1 .ab cp)) (oO (.o2 .le au ba) (oO (.o2 .lt ba cd) (oO (.o2 .le au ba) (oO (.o2 .lt cH (.o1 .ab cp)) (oO (.o2 .lt cH cd) SR)))))
abbrev S6 : aa := fF (.o2 .le au eX) aaP
abbrev T5 : aa := fF (.o2 .le au lU) aey
abbrev Tq : aa := fF (.o2 .lt cd ba) T5
abbrev Sq : aa := fT (.o2 .le au eX) Tq
abbrev NI : aa := fT (.o2 .le au fP) Sq
abbrev SQ : aa := fT (.o2 .le au BN) (fT uH NI)
abbrev SX : List Ob := oO (.o2 .lt ba (.o1 .ab cp)) (oO (.o2 .le au ba) (oO (.o2 .lt ba cd) (oO (.o2 .le au ba) Hi)))
abbrev TG : aa := fF (.o2 .lt cP (.v 7724)) aap
abbrev TC : aa := fF (.o2 .lt cd cH) TG
abbrev SN : aa := fF (.o2 .lt cd ba) TC
abbrev S3 : aa := fT (.o2 .le au eX) SN
abbrev LW : aa := fT (.o2 .le au fP) S3
abbrev T0 : aa := fT (.o2 .le au BN) (fT uH LW)
def dnL : List (aa × List Ob) :=
 [(fT (.o2 .le (.v 7724) cH) [], oO (.o2 .le cH yD) Kz),
  (fT (.o2 .lt cH au) abc, oO (.o2 .le qR cH) Kz),
  (fT (.o2 .lt cd cH) aec, Kz),
  (fT (.o2 .lt cd ba) abn, W9),
  (fT (.o2 .le au Bu) abN, acd),
  (fF (.o2 .le au Bu) abN, uG),
  (fF (.o2 .le au BN) (fT uH WT), uG),
  (fF uH WT, ad7),
  (fF (.o2 .le au fP) aeG, WV),
  (fF (.o2 .le au eX) aaB, UQ),
  (fT (.o2 .lt cd cH) abo, oO (.o2 .le qR cP) Kz),
  (fT (.o2 .lt cd ba) (fT OW QQ), acj),
  (fT (.o2 .le au Yc) Zs, oO (.o2 .lt (.v 2201) (.uf 294 EY)) (oO (.o2 .le au D4) (oO (.o2 .le au D4) (oO (.o2 .le au D4) (oO (.o2 .lt cP (.o1 .ab cp)) (oO (.o2 .le au cP) (oO (.o2 .lt cP cd) (oO (.o2 .le au cP) (oO (.o2 .le au Dw) (oO (.o2 .le au Dw) (oO (.o2 .le au Dw) (oO (.o2 .lt ba (.o1 .ab cp)) (oO (.o2 .le au ba) (oO (.o2 .lt ba cd) (oO (.o2 .le au ba) (oO (.o2 .lt cP (.o1 .ab cp)) (oO (.o2 .lt cP (.o1 .ab cp)) (oO (.o2 .le au cP) (oO (.o2 .lt cP cd) (oO (.o2 .le au cP) (oO (.o2 .lt ba (.o1 .ab cp)) (oO (.o2 .lt ba (.o1 .ab cp)) (oO (.o2 .le au ba) (oO (.o2 .lt ba cd) (oO (.o2 .le au ba) (oO (.o2 .lt ba (.o1 .ab cp)) (oO (.o2 .le au ba) (oO (.o2 .lt ba cd) (oO (.o2 .le au ba) (oO (.o2 .lt cP (.o1 .ab cp)) (oO (.o2 .le au cP) (oO (.o2 .lt cP cd) (oO (.o2 .le au cP) (oO (.o1 .not (eC 6 fI au)) (oO (.o1 .not (eC 6 iy au)) (oO (.uf 110 (eP (eC 0 fI au) (eP (eC 1 fI au) (eP (eC 4 fI au) au)))) (oO (.uf 110 (eP (eC 0 iy au) (eP (eC 1 iy au) (eP (eC 4 iy au) au)))) (oO (.o2 .le au (eC 1 bu fP)) (oO (.o2 .le au (eC 1 bu fP)) (oO (.o2 .le au (eC 1 bu fP)) (oO (.o2 .le au (eC 1 bu lU)) (oO (.o2 .le au (eC 1 bu lU)) (oO (.o2 .le au (eC 1 bu lU)) (oO (.o2 .lt ba (.o1 .ab cp)) (oO (.o2 .le au ba) (oO (.o2 .lt ba cd) (oO (.o2 .le au ba) (oO (.o2 .lt cP (.o1 .ab cp)) (oO (.o2 .le au cP) (oO (.o2 .lt cP cd) (oO (.o2 .le au cP) (oO (.o1 .not (eC 6 dX au)) (oO (.o1 .not (eC 6 iy au)) (oO (.uf 110 (eP (eC 0 dX au) (eP (eC 1 dX au) (eP (eC 4 dX au) au)))) (oO (.uf 110 (eP (eC 0 iy au) (eP (eC 1 iy au) (eP (eC 4 iy au) au)))) (oO (.o2 .le au (eC 1 bu eX)) (oO (.o2 .le au (eC 1 bu eX)) (oO (.o2 .le au (eC 1 bu eX)) (oO (.o2 .le au (eC 1 bu lU)) (oO (.o2 .le au (eC 1 bu lU)) (oO (.o2 .le au (eC 1 bu lU)) (oO (.o2 .lt cH (.o1 .ab cp)) (oO (.o2 .lt cH cd) (oO (.o2 .lt cP (.o1 .ab cp)) (oO (.o2 .le au cP) (oO (.o2 .lt cP cd) (oO (.o2 .le au cP) (oO (.o2 .le qR cP) (oO (.o2 .le qR EV) (oO (.o2 .aX cP (.uf 293 Jc)) (oT (.o2 .fA Sw (eP D4 (eP (eC 0 Sw D4) (eP cP au)))) (.uf 292 Jc) (oT YX (.uf 291 Jc) [])))))))))))))))))))))))))))))))))))))))))))))))))))))))))))))))))))))))),
  (fF (.o2 .le au Yc) Zs, uG),
  (fF (.o2 .le au UY) (fT UL Vv), uG),
  (fF UL Vv, oO (.o1 .not (eC 6 fI au)) (oO (.o1 .not (eC 6 iy au)) (oO (.uf 110 (eP (eC 0 fI au) (eP (eC 1 fI au) (eP (eC 4 fI au) au)))) (oO (.uf 110 (eP (eC 0 iy au) (eP (eC 1 iy au) (eP (eC 4 iy au) au)))) (oO (.o2 .le au (eC 1 bu fP)) (oO (.o2 .le au (eC 1 bu fP)) (oO (.o2 .le au (eC 1 bu fP)) (oO (.o2 .le au (eC 1 bu lU)) (oO (.o2 .le au (eC 1 bu lU)) (oO (.o2 .le au (eC 1 bu lU)) TI)))))))))),
  (fF (.o2 .le au fP) aaK, TI),
  (fT (.o2 .lt cd ba) (fF OW QQ), acj),
  (fT (.o2 .le au Bu) Tt, oO (.o2 .lt (.v 2201) (.uf 294 EY)) (oO (.o2 .le au xh) (oO (.o2 .le au xh) (oO (.o2 .le au xh) (oO (.o2 .lt cH (.o1 .ab cp)) (oO (.o2 .lt cH cd) (oO (.o2 .le au vZ) (oO (.o2 .le au vZ) (oO (.o2 .le au vZ) (oO (.o2 .lt ba (.o1 .ab cp)) (oO (.o2 .le au ba) (oO (.o2 .lt ba cd) (oO (.o2 .le au ba) (oO (.o2 .lt cH (.o1 .ab cp)) (oO (.o2 .lt cH (.o1 .ab cp)) (oO (.o2 .lt cH cd) (oO (.o2 .lt ba (.o1 .ab cp)) (oO (.o2 .lt ba (.o1 .ab cp)) (oO (.o2 .le au ba) (oO (.o2 .lt ba cd) (oO (.o2 .le au ba) (oO (.o2 .lt ba (.o1 .ab cp)) (oO (.o2 .le au ba) (oO (.o2 .lt ba cd) (oO (.o2 .le au ba) (oO (.o2 .lt cH (.o1 .ab cp)) (oO (.o2 .lt cH cd) (oO (.o1 .not (eC 6 fI au)) (oO (.o1 .not (eC 6 dX au)) (oO (.uf 110 (eP (eC 0 fI au) (eP (eC 1 fI au) (eP (eC 4 fI au) au)))) (oO (.uf 110 (eP (eC 0 dX au) (eP (eC 1 dX au) (eP (eC 4 dX au) au)))) (oO (.o2 .le au (eC 1 bu fP)) (oO (.o2 .le au (eC 1 bu fP)) (oO (.o2 .le au (eC 1 bu fP)) (oO (.o2 .le au (eC 1 bu eX)) (oO (.o2 .le au (eC 1 bu eX)) (oO (.o2 .le au (eC 1 bu eX)) (oO (.o2 .lt ba (.o1 .ab cp)) (oO (.o2 .le au ba) (oO (.o2 .lt ba cd) (oO (.o2 .le au ba) (oO (.o2 .lt cH (.o1 .ab cp)) (oO (.o2 .lt cH cd) (oO (.o1 .not (eC 6 dX au)) (oO (.o1 .not (eC 6 iy au)) (oO (.uf 110 (eP (eC 0 dX au) (eP (eC 1 dX au) (eP (eC 4 dX au) au)))) (oO (.uf 110 (eP (eC 0 iy au) (eP (eC 1 iy au) (eP (eC 4 iy au) au)))) (oO (.o2 .le au (eC 1 bu eX)) (oO (.o2 .le au (eC 1 bu eX)) (oO (.o2 .le au (eC 1 bu eX)) (oO (.o2 .le au (eC 1 bu lU)) (oO (.o2 .le au (eC 1 bu lU)) (oO (.o2 .le au (eC 1 bu lU)) Sn))))))))))))))))))))))))))))))))))))))))))))))))))))),
  (fF (.o2 .le au Bu) Tt, uG),
  (fF (.o2 .le au BN) (fT uH N7), uG),
  (fF uH N7, oO (.o1 .not (eC 6 fI au)) (oO (.o1 .not (eC 6 dX au)) (oO (.uf 110 (eP (eC 0 fI au) (eP (eC 1 fI au) (eP (eC 4 fI au) au)))) (oO (.uf 110 (eP (eC 0 dX au) (eP (eC 1 dX au) (eP (eC 4 dX au) au)))) (oO (.o2 .le au (eC 1 bu fP)) (oO (.o2 .le au (eC 1 bu fP)) (oO (.o2 .le au (eC 1 bu fP)) (oO (.o2 .le au (eC 1 bu eX)) (oO (.o2 .le au (eC 1 bu eX)) (oO (.o2 .le au (eC 1 bu eX)) Sf)))))))))),
  (fF (.o2 .le au fP) SH, Sf),
  (fT (.o2 .lt cd ba) S6, adv),
  (fF (.o2 .lt cd ba) S6, oO (.o2 .lt cH (.o1 .ab cp)) (oO (.o2 .lt cH cd) Hi)),
  (fT (.o2 .lt cd ba) T5, abr),
  (fT (.o2 .le au Bu) SQ, oO (.o2 .lt (.v 2201) (.uf 294 EY)) (oO (.o2 .le au xh) (oO (.o2 .le au xh) (oO (.o2 .le au xh) (oO (.o2 .lt cH (.o1 .ab cp)) (oO (.o2 .lt cH cd) (oO (.o2 .le au vZ) (oO (.o2 .le au vZ) (oO (.o2 .le au vZ) (oO (.o2 .lt ba (.o1 .ab cp)) (oO (.o2 .le au ba) (oO (.o2 .lt ba cd) (oO (.o2 .le au ba) (oO (.o2 .lt cH (.o1 .ab cp)) (oO (.o2 .lt cH (.o1 .ab cp)) (oO (.o2 .lt cH cd) (oO (.o2 .lt ba (.o1 .ab cp)) (oO (.o2 .lt ba (.o1 .ab cp)) (oO (.o2 .le au ba) (oO (.o2 .lt ba cd) (oO (.o2 .le au ba) (oO (.o2 .lt ba (.o1 .ab cp)) (oO (.o2 .le au ba) (oO (.o2 .lt ba cd) (oO (.o2 .le au ba) (oO (.o2 .lt cH (.o1 .ab cp)) (oO (.o2 .lt cH cd) (oO (.o1 .not (eC 6 fI au)) (oO (.o1 .not (eC 6 dX au)) (oO (.uf 110 (eP (eC 0 fI au) (eP (eC 1 fI au) (eP (eC 4 fI au) au)))) (oO (.uf 110 (eP (eC 0 dX au) (eP (eC 1 dX au) (eP (eC 4 dX au) au)))) (oO (.o2 .le au (eC 1 bu fP)) (oO (.o2 .le au (eC 1 bu fP)) (oO (.o2 .le au (eC 1 bu fP)) (oO (.o2 .le au (eC 1 bu eX)) (oO (.o2 .le au (eC 1 bu eX)) (oO (.o2 .le au (eC 1 bu eX)) (oO (.o2 .lt ba (.o1 .ab cp)) (oO (.o2 .le au ba) (oO (.o2 .lt ba cd) (oO (.o2 .le au ba) Sn))))))))))))))))))))))))))))))))))))))))),
  (fF (.o2 .le au Bu) SQ, uG),
  (fF (.o2 .le au BN) (fT uH NI), uG),
  (fF uH NI, oO (.o1 .not (eC 6 fI au)) (oO (.o1 .not (eC 6 dX au)) (oO (.uf 110 (eP (eC 0 fI au) (eP (eC 1 fI au) (eP (eC 4 fI au) au)))) (oO (.uf 110 (eP (eC 0 dX au) (eP (eC 1 dX au) (eP (eC 4 dX au) au)))) (oO (.o2 .le au (eC 1 bu fP)) (oO (.o2 .le au (eC 1 bu fP)) (oO (.o2 .le au (eC 1 bu fP)) (oO (.o2 .le au (eC 1 bu eX)) (oO (.o2 .le au (eC 1 bu eX)) (oO (.o2 .le au (eC 1 bu eX)) SX)))))))))),
  (fF (.o2 .le au fP) Sq, SX),
  (fF (.o2 .le au eX) Tq, Hi),
  (fT (.o2 .lt cd cH) TG, oO (.o2 .le cP yD) Kz),
  (fT (.o2 .lt cd ba) TC, oO (.o2 .le cP yD) W9),
  (fT (.o2 .le au Bu) T0, acd),
  (fF (.o2 .le au Bu) T0, uG),
  (fF (.o2 .le au BN) (fT uH LW), uG),
  (fF uH LW, ad7),
  (fF (.o2 .le au fP) S3, WV),
  (fF (.o2 .le au eX) SN, UQ)]
end Go.Proofs.YtdlppkhmmclipaaGreat.sxObj
namespace Go.Proofs.YtdlppkhmmclipaaGreat.sxObj
open Go.Sx Go.RowKit Go.Proofs.YtdlppkhmmclipaaGreat
set_option linter.unusedVariables false
set_option linter.unusedSimpArgs false
set_option maxRecDepth 100000
theorem aaV {j : Nat} : ((j : Int) - 1).tdiv 2 = ((par j : Nat) : Int) := by
 unfold par; rcases Nat.eq_zero_or_pos j with h | h
 ·subst h; rfl
 ·rw [Int.tdiv_eq_ediv_of_nonneg (by omega)]
  omega
section
variable {B I A : Dv} {n j : Nat}
theorem aaa {r : Nat} (h : r <= CP B I A j) : (dZ B I A j r).j + r <= j := up_down r fun s hs => by
 have h2 : s < stop (fun t => !oS I (dZ B I A j t)) (j + 1) := Nat.lt_of_lt_of_le hs h; have h3 := bP h2; simp only [Bool.not_eq_false', oS, Bool.and_eq_true, decide_eq_true_eq] at h3; exact h3.1
theorem aa2 {r : Nat} (h : r <= CP B I A j) (hg : oS I (dZ B I A j r) = true) : r < CP B I A j :=
 sC h (by have := aaa h; omega) (by rw [hg]; rfl)
theorem Vd {r : Nat} (h : r <= CP B I A j) (hg : oS I (dZ B I A j r) = false) : CP B I A j = r :=
 Ig h (.inl (by rw [hg]; rfl))
end
section
variable {o : Env}
theorem Ys {env : Env} {a b : E} : (E.o2 .quo a b).den env = .i ((a.den env).I.tdiv (b.den env).I) := id rfl
theorem LC (hu : OU o) (hh : OH o) : br o Lu := by
 simp only [Lu, al, av, and_true]
 and_intros
 all_goals intro h
 all_goals simp only [SS, implies_true, hh.all, hu.qE] at h ⊢
 ·unfold Un; rw [if_pos h]
 ·unfold Un; rw [if_neg h]
set_option maxHeartbeats 1000000 in
theorem Ul (hu : OU o) (hh : OH o) {r : Nat} (hr : o.v 2200 = .i r) (hent : (Zk.aV 0).aB o) (hle : (r : Int) <= ((E.uf 284 (pk RX)).den o).I) : br o upL := by
 simp only [Zk, MW, RX, cX, sX, aH, pk, List.foldr, SS, implies_true, hh.all, aw] at hent hle; obtain ⟨hin, t1, t2, t3, t4, t5⟩ := hent; have hj : (o.v 7713).I.toNat < (o.v 7714).I.toNat := by omega
 have hle : r <= CP (o.v 7710) (o.v 7711) (o.v 7712) (o.v 7713).I.toNat := by omega
 have hi := adF hin hj r; have hjl := YU (B := o.v 7710) (I := o.v 7711) (A := o.v 7712) (j := (o.v 7713).I.toNat) r; have hgo := aa2 hle; have hof := Vd hle; have hS : dZ (o.v 7710) (o.v 7711) (o.v 7712) (o.v 7713).I.toNat (r + 1) = swS (o.v 7711) (dZ (o.v 7710) (o.v 7711) (o.v 7712) (o.v 7713).I.toNat r) (par (dZ (o.v 7710) (o.v 7711) (o.v 7712) (o.v 7713).I.toNat r).j) (dZ (o.v 7710) (o.v 7711) (o.v 7712) (o.v 7713).I.toNat r).j (par (dZ (o.v 7710) (o.v 7711) (o.v 7712) (o.v 7713).I.toNat r).j) := rfl; simp only [upL, al, av, and_true]
 and_intros
 all_goals intro h
 all_goals simp only [SS, implies_true, hr, hh.all, hu.qE, hu.mr, aw, Ys, UH, aaV] at h ⊢
 all_goals try simp only [Zt, adM, aat, acQ, acn, TW, abY, aag, T3] at h ⊢
 all_goals generalize hs : dZ (o.v 7710) (o.v 7711) (o.v 7712) (o.v 7713).I.toNat r = s at *
 all_goals have hJ : s.j < (o.v 7714).I.toNat := by omega
 all_goals have hP : par s.j < (o.v 7714).I.toNat := Nat.lt_of_le_of_lt kx hJ
 all_goals have hn := hi.n
 all_goals have hi2 := ir hi hP hJ
 all_goals obtain ⟨oP1, oP2, oP3⟩ := hi.o _ hP
 all_goals obtain ⟨oJ1, oJ2, oJ3⟩ := hi.o _ hJ
 ·have h0 : s.j = 0 := by
    rcases Nat.eq_zero_or_pos s.j with q | q
    ·exact q
    ·have := LY q; omega
  rw [hof (by unfold oS; rw [h0]; rfl), hs]
  exact ⟨by omega, by omega, by omega, by omega, rfl, rfl⟩
 ·exact absurd h.1 (by omega)
 ·exact absurd h.1 (by omega)
 ·have h0 : 0 < s.j := by
    rcases Nat.eq_zero_or_pos s.j with q | q
    ·have h9 : par s.j = s.j := by rw [q]; rfl
     exact absurd (show ((par s.j : Nat) : Int) = (s.j : Nat) by omega) h.2.2.2.2.2.2.2
    ·exact q
  have hg := hgo (by unfold oS; rw [decide_eq_true h0, Bool.true_and]; exact h.2.2.1)
  repeat' refine And.intro ?_ ?_
  all_goals first
   | omega
   | with_reducible rfl
   | with_reducible exact hi.i _ hP
   | with_reducible exact hi.i _ hJ
   | with_reducible exact hi2.i _ hP
   | with_reducible exact hi2.i _ hJ
   | with_reducible exact hi.b _ hP
   | with_reducible exact hi.b _ hJ
   | assumption
   | (rw [hS]; rfl)
 ·exact absurd (hi2.k _ hJ) h.1
 ·exact absurd (hi2.k _ hP) h.1
 ·rw [hof (by unfold oS; rw [show VN (o.v 7711) s s.j (par s.j) = false from h.1, Bool.and_false]), hs]
  repeat' refine And.intro ?_ ?_
  all_goals first
   | omega
   | with_reducible rfl
   | with_reducible exact hi.i _ hP
   | with_reducible exact hi.i _ hJ
   | with_reducible exact hi2.i _ hP
   | with_reducible exact hi2.i _ hJ
   | with_reducible exact hi.b _ hP
   | with_reducible exact hi.b _ hJ
   | assumption
   | (rw [hS]; rfl)
 ·exact absurd (hi.k _ hP) h.1
 ·exact absurd (hi.k _ hJ) h.1
theorem tn1 {j : Nat} : (2 * (j : Int) + 1).toNat = 2 * j + 1 := by omega
theorem tn2 {j : Nat} : (2 * (j : Int) + 2).toNat = 2 * j + 2 := by omega
set_option maxHeartbeats 4000000 in
theorem VA (hu : OU o) (hh : OH o) {r : Nat} (hr : o.v 2201 = .i r) (hent : (Zo.aV 0).aB o) (hle : (r : Int) <= ((E.uf 294 (pk Oy)).den o).I) : br o dnL := by
 simp only [Zo, Od, Oy, cX, sX, aH, pk, List.foldr, SS, implies_true, hh.all, aw] at hent hle; obtain ⟨hin, t1, t2, t3, t4, t5, t6, t7⟩ := hent; have hle : r <= wU (o.v 7720) (o.v 7721) (o.v 7722) (o.v 7724).I.toNat (o.v 7723).I.toNat := by omega
 have hi := abJ hin (by omega) r hle
 have hjl := afY r hle; have hgo := aeL hle; have hof := VB hle; have hS : dD (o.v 7720) (o.v 7721) (o.v 7722) (o.v 7724).I.toNat (o.v 7723).I.toNat (r + 1) = swS (o.v 7721) (dD (o.v 7720) (o.v 7721) (o.v 7722) (o.v 7724).I.toNat (o.v 7723).I.toNat r) (dD (o.v 7720) (o.v 7721) (o.v 7722) (o.v 7724).I.toNat (o.v 7723).I.toNat r).j (gT (o.v 7721) (dD (o.v 7720) (o.v 7721) (o.v 7722) (o.v 7724).I.toNat (o.v 7723).I.toNat r) (o.v 7724).I.toNat) (gT (o.v 7721) (dD (o.v 7720) (o.v 7721) (o.v 7722) (o.v 7724).I.toNat (o.v 7723).I.toNat r) (o.v 7724).I.toNat) := rfl; simp only [dnL, al, av, and_true]
 and_intros
 all_goals intro h
 all_goals simp only [SS, implies_true, hr, hh.all, hu.qE, hu.mr, aw, tn1, tn2] at h ⊢
 all_goals try simp only [Zt, adM, aat, acQ, acn, TW, abY, aag, T3] at h ⊢
 all_goals generalize hs : dD (o.v 7720) (o.v 7721) (o.v 7722) (o.v 7724).I.toNat (o.v 7723).I.toNat r = s at *
 all_goals have hn := hi.n
 all_goals (repeat (have b := h.1; replace h := h.2))
 all_goals first
  | (exfalso; omega)
  | (rw [hof (abd (by omega)), hs]
     exact ⟨by omega, by omega, by omega, rfl, rfl, rfl⟩)
  | exact absurd (hi.k s.j (by omega)) (by assumption)
  | exact absurd (hi.k (2 * s.j + 1) (by omega)) (by assumption)
  | exact absurd (hi.k (2 * s.j + 2) (by omega)) (by assumption)
  | (have hk := ad3 (I := o.v 7721) (m := (o.v 7724).I.toNat) (s := s) (by omega) (by assumption)
     first
      | (have hg := hof (te hk (by omega) (by assumption))
         rw [hg, hs]; have hi2 := hi
         repeat' refine And.intro ?_ ?_
         all_goals first
          | omega
          | with_reducible rfl
          | with_reducible exact hi.i _ (by omega)
          | with_reducible exact hi2.i _ (by omega)
          | with_reducible exact hi.b _ (by omega)
          | (obtain ⟨q1, q2, q3⟩ := hi.o s.j (by omega); assumption)
          | (obtain ⟨q1, q2, q3⟩ := hi.o (2 * s.j + 1) (by omega); assumption)
          | (obtain ⟨q1, q2, q3⟩ := hi.o (2 * s.j + 2) (by omega); assumption)
          | (rw [hS, hk]; rfl))
      | (have hi2 := ir hi (i := s.j) (j := 2 * s.j + 2) (by omega) (by omega)
         exact absurd (hi2.k s.j (by omega)) (by assumption))
      | (have hi2 := ir hi (i := s.j) (j := 2 * s.j + 2) (by omega) (by omega)
         exact absurd (hi2.k (2 * s.j + 2) (by omega)) (by assumption))
      | (have hi2 := ir hi (i := s.j) (j := 2 * s.j + 1) (by omega) (by omega)
         exact absurd (hi2.k s.j (by omega)) (by assumption))
      | (have hi2 := ir hi (i := s.j) (j := 2 * s.j + 1) (by omega) (by omega)
         exact absurd (hi2.k (2 * s.j + 1) (by omega)) (by assumption))
      | (have hg := hgo (te hk (by omega) (by assumption))
         have hi2 := ir hi (i := s.j) (j := gT (o.v 7721) s (o.v 7724).I.toNat) (by omega) (by omega)
         rw [hk] at hi2
         repeat' refine And.intro ?_ ?_
         all_goals first
          | omega
          | with_reducible rfl
          | with_reducible exact hi.i _ (by omega)
          | with_reducible exact hi2.i _ (by omega)
          | with_reducible exact hi.b _ (by omega)
          | (obtain ⟨q1, q2, q3⟩ := hi.o s.j (by omega); assumption)
          | (obtain ⟨q1, q2, q3⟩ := hi.o (2 * s.j + 1) (by omega); assumption)
          | (obtain ⟨q1, q2, q3⟩ := hi.o (2 * s.j + 2) (by omega); assumption)
          | (rw [hS, hk]; rfl)))
  | (have hk := aeZ (I := o.v 7721) (m := (o.v 7724).I.toNat) (s := s) (by assumption)
     first
      | (have hg := hof (te hk (by omega) (by assumption))
         rw [hg, hs]; have hi2 := hi
         repeat' refine And.intro ?_ ?_
         all_goals first
          | omega
          | with_reducible rfl
          | with_reducible exact hi.i _ (by omega)
          | with_reducible exact hi2.i _ (by omega)
          | with_reducible exact hi.b _ (by omega)
          | (obtain ⟨q1, q2, q3⟩ := hi.o s.j (by omega); assumption)
          | (obtain ⟨q1, q2, q3⟩ := hi.o (2 * s.j + 1) (by omega); assumption)
          | (obtain ⟨q1, q2, q3⟩ := hi.o (2 * s.j + 2) (by omega); assumption)
          | (rw [hS, hk]; rfl))
      | (have hi2 := ir hi (i := s.j) (j := 2 * s.j + 2) (by omega) (by omega)
         exact absurd (hi2.k s.j (by omega)) (by assumption))
      | (have hi2 := ir hi (i := s.j) (j := 2 * s.j + 2) (by omega) (by omega)
         exact absurd (hi2.k (2 * s.j + 2) (by omega)) (by assumption))
      | (have hi2 := ir hi (i := s.j) (j := 2 * s.j + 1) (by omega) (by omega)
         exact absurd (hi2.k s.j (by omega)) (by assumption))
      | (have hi2 := ir hi (i := s.j) (j := 2 * s.j + 1) (by omega) (by omega)
         exact absurd (hi2.k (2 * s.j + 1) (by omega)) (by assumption))
      | (have hg := hgo (te hk (by omega) (by assumption))
         have hi2 := ir hi (i := s.j) (j := gT (o.v 7721) s (o.v 7724).I.toNat) (by omega) (by omega)
         rw [hk] at hi2
         repeat' refine And.intro ?_ ?_
         all_goals first
          | omega
          | with_reducible rfl
          | with_reducible exact hi.i _ (by omega)
          | with_reducible exact hi2.i _ (by omega)
          | with_reducible exact hi.b _ (by omega)
          | (obtain ⟨q1, q2, q3⟩ := hi.o s.j (by omega); assumption)
          | (obtain ⟨q1, q2, q3⟩ := hi.o (2 * s.j + 1) (by omega); assumption)
          | (obtain ⟨q1, q2, q3⟩ := hi.o (2 * s.j + 2) (by omega); assumption)
          | (rw [hS, hk]; rfl)))
  | (have hk := abz (I := o.v 7721) (m := (o.v 7724).I.toNat) (s := s) (by omega)
     first
      | (have hg := hof (te hk (by omega) (by assumption))
         rw [hg, hs]; have hi2 := hi
         repeat' refine And.intro ?_ ?_
         all_goals first
          | omega
          | with_reducible rfl
          | with_reducible exact hi.i _ (by omega)
          | with_reducible exact hi2.i _ (by omega)
          | with_reducible exact hi.b _ (by omega)
          | (obtain ⟨q1, q2, q3⟩ := hi.o s.j (by omega); assumption)
          | (obtain ⟨q1, q2, q3⟩ := hi.o (2 * s.j + 1) (by omega); assumption)
          | (obtain ⟨q1, q2, q3⟩ := hi.o (2 * s.j + 2) (by omega); assumption)
          | (rw [hS, hk]; rfl))
      | (have hi2 := ir hi (i := s.j) (j := 2 * s.j + 2) (by omega) (by omega)
         exact absurd (hi2.k s.j (by omega)) (by assumption))
      | (have hi2 := ir hi (i := s.j) (j := 2 * s.j + 2) (by omega) (by omega)
         exact absurd (hi2.k (2 * s.j + 2) (by omega)) (by assumption))
      | (have hi2 := ir hi (i := s.j) (j := 2 * s.j + 1) (by omega) (by omega)
         exact absurd (hi2.k s.j (by omega)) (by assumption))
      | (have hi2 := ir hi (i := s.j) (j := 2 * s.j + 1) (by omega) (by omega)
         exact absurd (hi2.k (2 * s.j + 1) (by omega)) (by assumption))
      | (have hg := hgo (te hk (by omega) (by assumption))
         have hi2 := ir hi (i := s.j) (j := gT (o.v 7721) s (o.v 7724).I.toNat) (by omega) (by omega)
         rw [hk] at hi2
         repeat' refine And.intro ?_ ?_
         all_goals first
          | omega
          | with_reducible rfl
          | with_reducible exact hi.i _ (by omega)
          | with_reducible exact hi2.i _ (by omega)
          | with_reducible exact hi.b _ (by omega)
          | (obtain ⟨q1, q2, q3⟩ := hi.o s.j (by omega); assumption)
          | (obtain ⟨q1, q2, q3⟩ := hi.o (2 * s.j + 1) (by omega); assumption)
          | (obtain ⟨q1, q2, q3⟩ := hi.o (2 * s.j + 2) (by omega); assumption)
          | (rw [hS, hk]; rfl)))
end
end Go.Proofs.YtdlppkhmmclipaaGreat.sxObj
namespace Go.Proofs.YtdlppkhmmclipaaGreat.sxObj
open Go.Sx
set_option linter.unusedVariables false
set_option maxRecDepth 100000
abbrev Sh : E := .v 7770
abbrev AL : E := eC 0 Sh (.v 2206)
abbrev gU : E := .il 0
abbrev or3 : E := .o2 .lt (.v 2206) (.o1 .ab Sh)
abbrev or4 : E := .uf 211 (eP Sh gU)
abbrev or5 : E := .uf 212 (eP Sh gU)
abbrev or6 : E := eP (.v 7771) (eP (.v 7772) (eP (.v 7773) (eP (.v 7774) (eP Sh (eP (.v 2206) gU)))))
abbrev Su : E := .uf 305 or6
abbrev or8 : E := eP (.v 7771) (eP (.v 7772) (eP (.v 7773) (eP (.v 7774) (eP Sh (eP or5 gU)))))
abbrev Jv : E := .uf 302 or6
abbrev sP : E := .uf 304 or6
abbrev lN : E := .uf 303 or6
abbrev ZA : List Ob := oT Su (.uf 305 or8) (oT Jv (.uf 302 or8) (oP sP (.uf 304 or8) (oO (.o2 .aX lN (.uf 303 or8)) [])))
abbrev RG : E := .uf 100 (eP (eC 0 AL gU) (eP (eC 1 AL gU) gU))
abbrev qU : E := eC 1 sP (.o2 (.mf .s) sP RG)
abbrev E5 : E := .o2 .fA Su (eP qU (eP AL (eP (eC 1 Su qU) gU)))
abbrev ry : E := eC 1 E5 qU
abbrev Lq : E := eP lN gU
abbrev Us : E := eP Jv (eP sP (eP E5 (eP ry Lq)))
abbrev aae : E := .o2 .lt ry (.uf 297 Us)
abbrev WL : E := .o2 .le gU (.o2 (.mf .s) sP RG)
abbrev YD : aa := fF (eC 6 AL gU) (fT or3 [])
abbrev W0 : E := eP gU gU
abbrev IT : E := eP Jv (eP sP (eP E5 (eP ry (eP lN W0))))
abbrev rY : E := .il 1000000
abbrev JV : E := .uf 296 Us
abbrev yA : E := eP (.v 7771) (eP (.v 7772) (eP (.v 7773) (eP (.v 7774) (eP Sh (eP (.o2 .add (.v 2206) (.il 1)) gU)))))
abbrev JZ : E := .uf 295 Us
abbrev aee : List Ob := oP sP (.uf 304 yA) (oO (.o2 .aX lN (.uf 303 yA)) [])
abbrev WS : E := eP JZ (eP sP (eP JV (eP ry W0)))
abbrev abU : E := eP JZ (eP sP (eP JV (eP ry gU)))
abbrev Qb : E := .o2 .fj (.o2 .de Jv lN) (eP RG gU)
abbrev Rt : E := .o2 (.mp .s) sP (eP RG (eP (.o1 .ab Su) gU))
abbrev PX : E := .o2 .fj Su (eP AL Lq)
abbrev Kc : E := .o2 .add lN (.il 1)
abbrev EA : E := .o2 .sub Kc (.il 1)
abbrev We : E := eP Qb (eP Rt (eP PX (eP EA W0)))
abbrev aaW : E := eP Qb (eP Rt (eP PX (eP EA gU)))
def hbL : List (aa × List Ob) :=
 [(fT (eC 6 AL gU) (fT or3 []), oO or4 (oO (.uf 110 (eP (eC 0 AL gU) (eP (eC 1 AL gU) (eP (eC 4 AL gU) gU)))) (oT AL (eC 0 Sh or5) ZA))),
  (fT aae (fT WL YD), oO (.o2 .lt (.v 2206) or5) (oT Jv (.uf 291 IT) (oT E5 (.uf 292 IT) (oO (.o2 .aX ry (.uf 293 IT)) (oO (.o2 .le (.o1 .ab Su) rY) (oO (.o2 .le (.o1 .ab Jv) rY) (oO (.o2 .le lN rY) (oO (.o2 .le gU lN) (oO (.o2 .le ry rY) (oO (.o2 .le gU ry) (oO (.uf 287 (eP Jv (eP sP (eP E5 Lq)))) (oO (.o2 .le gU lN) (oO (.o2 .le gU qU) (oO (.o2 .le gU qU) (oO (.o2 .le gU qU) (oO (.o2 .le gU qU) (oO (.o2 .le gU qU) (oO (.o2 .le gU qU) (oO (.uf 110 (eP (eC 0 AL gU) (eP (eC 1 AL gU) (eP (eC 4 AL gU) gU)))) (oT JV (.uf 305 yA) (oT JZ (.uf 302 yA) aee))))))))))))))))))))),
  (fF aae (fT WL YD), oO (.o2 .lt (.v 2206) or5) (oT JZ (.uf 281 WS) (oT JV (.uf 282 WS) (oO (.o2 .aX ry (.uf 283 WS)) (oO (.o2 .le (.o1 .ab JV) rY) (oO (.o2 .le (.o1 .ab JZ) rY) (oO (.o2 .le lN rY) (oO (.o2 .lt ry lN) (oO (.o2 .le gU ry) (oO (.uf 287 (eP JZ (eP sP (eP JV Lq)))) (oT Jv (.uf 291 IT) (oT E5 (.uf 292 IT) (oO (.o2 .aX ry (.uf 293 IT)) (oO (.o2 .le (.o1 .ab Su) rY) (oO (.o2 .le (.o1 .ab Jv) rY) (oO (.o2 .le lN rY) (oO (.o2 .le gU lN) (oO (.o2 .le ry rY) (oO (.o2 .le gU ry) (oO (.uf 287 (eP Jv (eP sP (eP E5 Lq)))) (oO (.o2 .le gU lN) (oO (.o2 .le gU qU) (oO (.o2 .le gU qU) (oO (.o2 .le gU qU) (oO (.o2 .le gU qU) (oO (.o2 .le gU qU) (oO (.o2 .le gU qU) (oO (.uf 110 (eP (eC 0 AL gU) (eP (eC 1 AL gU) (eP (eC 4 AL gU) gU)))) (oT (.uf 286 abU) (.uf 305 yA) (oT (.uf 285 abU) (.uf 302 yA) aee)))))))))))))))))))))))))))))),
  (fF WL YD, oO (.o2 .lt (.v 2206) or5) (oT Qb (.uf 281 We) (oO (.o2 .le lN (.o1 .ab Jv)) (oO (.o2 .le gU lN) (oT PX (.uf 282 We) (oO (.o2 .aX EA (.uf 283 We)) (oO (.o2 .le (.o2 .add (.o1 .ab Su) (.il 1)) rY) (oO (.o2 .le (.o2 .add (.o1 .ab (.o2 .de Jv lN)) (.il 1)) rY) (oO (.o2 .le Kc rY) (oO (.o2 .lt EA Kc) (oO (.o2 .le gU EA) (oO (.uf 287 (eP Qb (eP Rt (eP PX (eP Kc gU))))) (oO (.o2 .le EA (.il 9223372036854775807)) (oO (.o2 .le (.il (-9223372036854775808)) EA) (oO (.o2 .le gU Kc) (oO (.o2 .le lN (.il 2147483648)) (oO (.o2 .le lN (.o1 .ab Jv)) (oO (.o2 .le gU lN) (oO (.o2 .le gU lN) (oO (.uf 110 (eP (eC 0 AL gU) (eP (eC 1 AL gU) (eP (eC 4 AL gU) gU)))) (oT (.uf 286 aaW) (.uf 305 yA) (oT (.uf 285 aaW) (.uf 302 yA) (oP Rt (.uf 304 yA) (oO (.o2 .aX Kc (.uf 303 yA)) [])))))))))))))))))))))))),
  (fF or3 [], oO (.o1 .not or4) ZA)]
end Go.Proofs.YtdlppkhmmclipaaGreat.sxObj
namespace Go.Proofs.YtdlppkhmmclipaaGreat.sxObj
open Go.Sx Go.RowKit Go.Proofs.YtdlppkhmmclipaaGreat
set_option linter.unusedVariables false
set_option linter.unusedSimpArgs false
set_option maxRecDepth 100000
theorem Dx {a b c d e : Dv} : vS (O2.den .bT a (O2.den .bT b (O2.den .bT c (O2.den .bT d e)))) = ⟨a.T, b.I.toNat, c.T, d.T⟩ := id rfl
theorem BQ {h : HM} {k any : Dv} (hh : 0 <= aP .s k h.I) : fv h k any = fo h k any := if_pos hh
theorem Ih {h : HM} {k any : Dv} (hh : ¬ 0 <= aP .s k h.I) : fv h k any = jH h k any := if_neg hh
theorem QH {env : Env} {q : KQ} {a b : E} : (E.o2 (.mp q) a b).den env = .t (jB q (a.den env).T (b.den env).row) := id rfl
theorem UC {env : Env} {q : KQ} {a b : E} : (E.o2 (.md q) a b).den env = .t (nW q (a.den env).T (b.den env)) := id rfl
section
variable {H : HM} {I A : List Row} {k any L B' I' A' : Dv} {r m j : Nat}
theorem agt : Dv.s (iP (cc (row (cc (row L r) 0) 0) 0).S (cc (row (cc (row L r) 0) 0) 1).S) = db L r := id rfl
theorem oV : (cc (row (.t I) (aP .s k I).toNat) 1).I = dM (.t I) k := id rfl
theorem Z0 : H.A.set (dM (.t H.I) k).toNat [any, cc (row (.t H.A) (dM (.t H.I) k).toNat) 1] = (bc H k any).A := id rfl
theorem aeu : (cc (row (.t (bc H k any).A) (dM (.t H.I) k).toNat) 1).I = gq (bc H k any) k := id rfl
theorem PW : dD B' I' A' m j 0 = ⟨B'.T, A'.T, j⟩ := id rfl
theorem Qr : dZ B' I' A' j 0 = ⟨B'.T, A'.T, j⟩ := id rfl
theorem tnn {n : Nat} : ((n : Int) + 1 - 1).toNat = n := by omega
theorem tni {n : Nat} : (n : Int) + 1 - 1 = n := by omega
theorem ZX : (dD (.t H.B) (.t H.I) (.t (bc H k any).A) m j (wU (.t H.B) (.t H.I) (.t (bc H k any).A) m j)).A = (cO (bc H k any) m j).A := id rfl
theorem aa6 : (dD (.t H.B) (.t H.I) (.t (bc H k any).A) m j (wU (.t H.B) (.t H.I) (.t (bc H k any).A) m j)).B = (cO (bc H k any) m j).B := id rfl
theorem ZF : (dD (.t H.B) (.t H.I) (.t (bc H k any).A) m j (wU (.t H.B) (.t H.I) (.t (bc H k any).A) m j)).j = BY (bc H k any) m j := id rfl
theorem aaR : (dZ (.t (cO (bc H k any) m j).B) (.t H.I) (.t (cO (bc H k any) m j).A) r (CP (.t (cO (bc H k any) m j).B) (.t H.I) (.t (cO (bc H k any) m j).A) r)).A = (p6 (cO (bc H k any) m j) r).A := id rfl
theorem acw : (dZ (.t (cO (bc H k any) m j).B) (.t H.I) (.t (cO (bc H k any) m j).A) r (CP (.t (cO (bc H k any) m j).B) (.t H.I) (.t (cO (bc H k any) m j).A) r)).B = (p6 (cO (bc H k any) m j) r).B := id rfl
theorem pR (c : eF H) (hh : 0 <= aP .s k H.I) (hc : jr any k) : eF (bc H k any) := by
 obtain ⟨i, hi, hk, e⟩ := ye c hh; exact wQ c hi e hk hc
theorem GS (c : eF H) (hh : 0 <= aP .s k H.I) : 0 <= dM (.t H.I) k := by
 obtain ⟨i, hi, hk, e⟩ := ye c hh; rw [e]; exact c.dJ.i i hi
end
section
variable {o : Env}
theorem Wj (hu : OU o) (hv : OV o) (hh : OH o) (hj : OJ o) {r : Nat} (hr : o.v 2206 = .i r) (hent : (hbY.aV 0).aB o) (hle : (r : Int) <= ((E.uf 212 (pk [.v 7770])).den o).I) : br o hbL := by
 simp only [hbY, Mm, nk, cX, aH, pk, List.foldr, SS, implies_true, hv.JI, hv.PQ, hj.hb, Dx, aw] at hent hle; obtain ⟨hok, hmx, hin, l20, n0, n1, b1, a1, i1⟩ := hent; have hle : r <= gN (qa (o.v 7770)) (o.v 7770).T.length := by omega
 have hgl : gN (qa (o.v 7770)) (o.v 7770).T.length <= (o.v 7770).T.length := ln
 have hq : ∀ j, j < r -> qa (o.v 7770) j := fun j h2 => by
  have h2 : j < stop (fun j => !dec (qa (o.v 7770) j)) (o.v 7770).T.length := Nat.lt_of_lt_of_le h2 hle; have h3 := bP h2; have h3 : dec (qa (o.v 7770) j) = true := by simpa using h3
  exact aw.1 h3
 obtain ⟨v, g⟩ := Ta hin hok r (by omega) hq
 have gn := g.n; have gb := g.b; have gi := g.i; have ga := g.a; simp only at gn gb gi ga; have hS : mG (o.v 7770) ⟨(o.v 7771).T, (o.v 7772).I.toNat, (o.v 7773).T, (o.v 7774).T⟩ (r + 1) = fv (mG (o.v 7770) ⟨(o.v 7771).T, (o.v 7772).I.toNat, (o.v 7773).T, (o.v 7774).T⟩ r) (db (o.v 7770) r) (cc (row (o.v 7770) r) 0) := rfl; simp only [hbL, al, av, and_true]
 and_intros
 all_goals intro h
 all_goals simp only [SS, implies_true, hr, hh.all, hu.qE, hu.mr, hv.RU, hv.JI, hj.hb, Dx, aw, da, Classical.not_not, QH, PW, Qr, tnn, tni] at h ⊢
 all_goals try simp only [agt, oV, Z0, aeu, ZX, aa6, ZF, aaR, acw] at h ⊢
 all_goals generalize hH : mG (o.v 7770) ⟨(o.v 7771).T, (o.v 7772).I.toNat, (o.v 7773).T, (o.v 7774).T⟩ r = H at *
 ·have hb : ¬ qa (o.v 7770) r := fun q => by
    have hq : (cc (jD (o.v 7770) r) 6).B = true := h.1; rw [q] at hq; cases hq
  have hg := af6 hle (by omega) hb
  exact ⟨iB (r := r) (by omega) hb, hok r (by omega), by rw [hg], by rw [hg, hH], by rw [hg, hH], by rw [hg, hH], by rw [hg, hH]⟩
 ·obtain ⟨hx, hh2, hgd, hl⟩ := h; have hc : jr (cc (row (o.v 7770) r) 0) (db (o.v 7770) r) := sE hgd (hok r (by omega))
  have hg := xj hle (by omega) (show qa (o.v 7770) r from hgd)
  have hset := pR v.c hh2 hc; have hnn := GS v.c hh2; obtain ⟨_, _, _, _, _, _, j0, j1⟩ := ow v hh2 hc
  have e1 : mG (o.v 7770) ⟨(o.v 7771).T, (o.v 7772).I.toNat, (o.v 7773).T, (o.v 7774).T⟩ (r + 1) = cO (bc H (db (o.v 7770) r) (cc (row (o.v 7770) r) 0)) H.n (gq (bc H (db (o.v 7770) r) (cc (row (o.v 7770) r) 0)) (db (o.v 7770) r)).toNat := by
   rw [hS, BQ hh2]; unfold fo gx; rw [if_pos]; exact (Int.toNat_lt j0).2 hx
  obtain ⟨oo1, oo2, oo3⟩ := hok r (by omega)
  have hin2 := hset.dJ; have hu2 := rP v hh2 hc; have ul : (bc H (db (o.v 7770) r) (cc (row (o.v 7770) r) 0)).A.length = H.A.length := List.length_set ..
  repeat' refine And.intro ?_ ?_
  all_goals first
   | omega
   | assumption
   | (rw [e1]; done)
   | (rw [e1]; rfl)
   | (rw [e1]; exact List.Perm.refl _)
   | exact oo1
   | exact oo2
   | exact oo3
   | rfl
 ·obtain ⟨hx, hh2, hgd, hl⟩ := h; have hc : jr (cc (row (o.v 7770) r) 0) (db (o.v 7770) r) := sE hgd (hok r (by omega))
  have hg := xj hle (by omega) (show qa (o.v 7770) r from hgd)
  have hset := pR v.c hh2 hc; have hnn := GS v.c hh2; obtain ⟨_, _, _, _, _, _, j0, j1⟩ := ow v hh2 hc
  have e1 : mG (o.v 7770) ⟨(o.v 7771).T, (o.v 7772).I.toNat, (o.v 7773).T, (o.v 7774).T⟩ (r + 1) = p6 (cO (bc H (db (o.v 7770) r) (cc (row (o.v 7770) r) 0)) H.n (gq (bc H (db (o.v 7770) r) (cc (row (o.v 7770) r) 0)) (db (o.v 7770) r)).toNat) (gq (bc H (db (o.v 7770) r) (cc (row (o.v 7770) r) 0)) (db (o.v 7770) r)).toNat := by
   rw [hS, BQ hh2]; unfold fo gx; rw [if_neg]; exact fun q => hx ((Int.toNat_lt j0).1 q)
  obtain ⟨oo1, oo2, oo3⟩ := hok r (by omega)
  have hin2 := hset.dJ; have hu2 := rP v hh2 hc; have hin3 := hu2.c.dJ; have ul : (bc H (db (o.v 7770) r) (cc (row (o.v 7770) r) 0)).A.length = H.A.length := List.length_set ..; have ul2 := hu2.l; have ub2 : (cO (bc H (db (o.v 7770) r) (cc (row (o.v 7770) r) 0)) H.n (gq (bc H (db (o.v 7770) r) (cc (row (o.v 7770) r) 0)) (db (o.v 7770) r)).toNat).B.length = H.B.length := hu2.b
  repeat' refine And.intro ?_ ?_
  all_goals first
   | omega
   | assumption
   | (rw [e1]; done)
   | (rw [e1]; rfl)
   | (rw [e1]; exact List.Perm.refl _)
   | exact oo1
   | exact oo2
   | exact oo3
   | rfl
 ·obtain ⟨hh2, hgd, hl⟩ := h; have hc : jr (cc (row (o.v 7770) r) 0) (db (o.v 7770) r) := sE hgd (hok r (by omega))
  have hg := xj hle (by omega) (show qa (o.v 7770) r from hgd)
  have e1 : mG (o.v 7770) ⟨(o.v 7771).T, (o.v 7772).I.toNat, (o.v 7773).T, (o.v 7774).T⟩ (r + 1) = p6 (bV H (db (o.v 7770) r) (cc (row (o.v 7770) r) 0)) H.n := by
   rw [hS, Ih hh2]; rfl
  obtain ⟨oo1, oo2, oo3⟩ := hok r (by omega)
  have hin2 := (rn v.c hh2 hc).dJ; have hbn := v.c.dJ.n; have htk : (List.take H.n H.B).length <= H.n := by rw [List.length_take]; omega
  repeat' refine And.intro ?_ ?_
  all_goals first
   | omega
   | assumption
   | (rw [e1]; done)
   | (rw [e1]; rfl)
   | (rw [e1]; exact List.Perm.refl _)
   | exact oo1
   | exact oo2
   | exact oo3
   | rfl
 ·have hgg : gN (qa (o.v 7770)) (o.v 7770).T.length = r := by omega
  exact ⟨r6 hle (by omega), by rw [hgg, hH], by rw [hgg, hH], by rw [hgg, hH], by rw [hgg, hH]⟩
end
end Go.Proofs.YtdlppkhmmclipaaGreat.sxObj
