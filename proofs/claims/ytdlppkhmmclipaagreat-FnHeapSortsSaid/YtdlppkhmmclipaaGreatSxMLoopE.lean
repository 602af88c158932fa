/-
  SX, PART 27: a loop's contract, computed: heads, paths and what is left to show.
-/
import Derived.Test.YtdlppkhmmclipaaGreatSxMLoop
namespace Go.Sx
open Go.RowKit
set_option linter.unusedVariables false
set_option linter.unusedSimpArgs false
def E.aR (pr : Nat -> E) : E -> E
 | .v n => pr n
 | .il z => .il z
 | .bl b => .bl b
 | .sl s => .sl s
 | .fn c a => .fn c (a.aR pr)
 | .uf c a => .uf c (a.aR pr)
 | .o1 o a => fZ o (a.aR pr)
 | .o2 o a b => jK o (a.aR pr) (b.aR pr)
 | .ext s lo hi => .ext (s.aR pr) (lo.aR pr) (hi.aR pr)
structure cY (e e' : Env) (pr : Nat -> E) (cx : Nat -> Bool) : Prop where
 v : ∀ n, e'.v n = (pr n).den e
 fn : e'.fn = e.fn
 val : ∀ c, cx c = true -> ∀ i, e'.val c i = e.val c i
 mp : e'.mp = e.mp
 uf : e'.uf = e.uf
theorem E.aO {e e' : Env} {pr : Nat -> E} {cx : Nat -> Bool} (h : cY e e' pr cx) : ∀ (x : E), (x.aR pr).den e = x.den e' := by
 intro x
 induction x with
 | v n => exact (h.v n).symm
 | fn c a ih => simp only [E.aR, E.den, ih, h.fn]
 | uf c a ih => simp only [E.aR, E.den, ih, h.uf]
 | o1 o a ih => simp only [E.aR, bA, E.den, ih]
 | o2 o a b iha ihb => simp only [E.aR, bn, E.den, iha, ihb]
 | ext s lo hi i1 i2 i3 => simp only [E.aR, E.den, i1, i2, i3]
 | _ => rfl
def rM (a b : E) : List Ob := cond (a.same b) [] [.e (.o2 .aX a b)]
def Nv (a b : E) : List Ob := cond (a.same b) [] [.e (.o2 .beq a b)]
def Ql (a b : E) : List Ob := cond (a.same b) [] [.e (.o2 .seq a b)]
def cL (e : Env) (l : List Ob) : Prop := ∀ x ∈ l, x.den e
theorem aM {e : Env} {a b : List Ob} : cL e (a ++ b) ↔ cL e a /\ cL e b :=
 ⟨fun h => ⟨fun x hx => h x (List.mem_append_left _ hx), fun x hx => h x (List.mem_append_right _ hx)⟩, fun h x hx => (List.mem_append.1 hx).elim (h.1 x) (h.2 x)⟩
theorem gC {e : Env} {a b : E} (h : cL e (rM a b)) : (a.den e).I = (b.den e).I := by
 unfold rM at h; cases hs : a.same b with
 | true => rw [E.ax hs]
 | false =>
   rw [hs] at h; have : ((a.den e).I == (b.den e).I) = true := h _ (List.mem_singleton.2 rfl); simpa using this
theorem Bw {e : Env} {a b : E} (h : cL e (Nv a b)) : (a.den e).B = (b.den e).B := by
 unfold Nv at h; cases hs : a.same b with
 | true => rw [E.ax hs]
 | false =>
   rw [hs] at h; have : ((a.den e).B == (b.den e).B) = true := h _ (List.mem_singleton.2 rfl); simpa using this
theorem GX {e : Env} {a b : E} (h : cL e (Ql a b)) : (a.den e).S = (b.den e).S := by
 unfold Ql at h; cases hs : a.same b with
 | true => rw [E.ax hs]
 | false =>
   rw [hs] at h; have : ((a.den e).S.toList == (b.den e).S.toList) = true := h _ (List.mem_singleton.2 rfl); have h2 : (a.den e).S.toList = (b.den e).S.toList := by simpa using this
   have h4 : ((a.den e).S == (b.den e).S) = true := by rw [bytes_beq]; exact this
   have h5 : ((a.den e).S.data == (b.den e).S.data) = true := h4; exact ByteArray.ext (by simpa using h5)
def sZ (a b : E) : List Ob := cond (a.same b) [] [.t a b]
def KC (a b : E) : List Ob := cond (a.same b) [] [.p a b]
theorem AH {e : Env} {a b : E} (h : cL e (KC a b)) : (a.den e).T.Perm (b.den e).T := by
 unfold KC at h; cases hs : a.same b with
 | true => rw [E.ax hs]
 | false => rw [hs] at h; exact h _ (List.mem_singleton.2 rfl)
theorem iu {e : Env} {a b : E} (h : cL e (sZ a b)) : (a.den e).T = (b.den e).T := by
 unfold sZ at h; cases hs : a.same b with
 | true => rw [E.ax hs]
 | false => rw [hs] at h; exact h _ (List.mem_singleton.2 rfl)
section
variable (pr : Nat -> E) (cx : Nat -> Bool) (σ : Nat -> Nat)
def vW (a b : Option (List Ob)) : Option (List Ob) :=
 match a, b with
 | some x, some y => some (x ++ y)
 | _, _ => none
def ifB (b : Bool) : Option (List Ob) := cond b (some []) none
mutual
def entC : SV -> SV -> Option (List Ob)
 | _, .top => some []
 | .int k a, .int k' b => cond (fy k k') (some (rM a (b.aR pr))) none
 | .bool a, .bool b => some (Nv a (b.aR pr))
 | .str a, .str b => some (Ql a (b.aR pr))
 | .val c a, .val d b => cond (Nat.beq c d && cx c) (some (rM a (b.aR pr))) none
 | .gm, .gm => some []
 | .ptr n (.c j), .ptr m (.c j') => ifB (Nat.beq n (σ m) && Nat.beq j j')
 | .mS, .mS => some []
 | .cr, .cr => some []
 | .sl n sz lo len, .sl m sz' lo' len' => cond (Nat.beq n (σ m) && Nat.beq sz sz') (some (rM lo (lo'.aR pr) ++ rM len (len'.aR pr))) none
 | .cg ks a, .cg ks' b => cond (ks.same ks') (some (sZ a (b.aR pr))) none
 | .cr, .cg _ b => some (sZ (.il 0) (b.aR pr))
 | .gV ks a, .cg ks' b => cond (ks.same ks') (some (sZ a (b.aR pr))) none
 | .gV ks a, .gV ks' b => cond (ks.same ks') (some (sZ a (b.aR pr))) none
 | .dC ks a i j, .dC ks' b i' j' => cond (ks.same ks' && Nat.beq j j') (some (sZ (yw a i) (yw (b.aR pr) (i'.aR pr)))) none
 | .pq T i j, .pq T' i' j' => cond (Nat.beq T T' && Nat.beq j j') (some (rM i (i'.aR pr))) none
 | .gm, .pq _ i' 0 => some [.e (Kr (i'.aR pr) (.il 0))]
 | .cC, .cC => some []
 | .map n, .map m => ifB (Nat.beq n (σ m))
 | .chan n, .chan m => ifB (Nat.beq n (σ m))
 | .mF, .mF => some []
 | .iC, .iC => some []
 | .fn (.func f) a c, .fn (.func g) b d => cond (Nat.beq f g) (vW (entCs a b) (entCs c d)) none
 | .dO, .dO => some []
 | .eh t x, .eh u y => cond (Nat.beq t u) (entC x y) none
 | .agg l, .agg m => entCs l m
 | .fq l, .fq m => entCs l m
 | _, _ => none
def entCs : List SV -> List SV -> Option (List Ob)
 | [], [] => some []
 | x :: l, y :: m => vW (entC x y) (entCs l m)
 | _, _ => none
end
end
theorem fV {a b : Option (List Ob)} {l : List Ob} (h : vW a b = some l) : ∃ x y, a = some x /\ b = some y /\ l = x ++ y := by
 unfold vW at h; split at h
 ·rename_i x y; injection h with h; exact ⟨x, y, rfl, rfl, h.symm⟩
 ·cases h
theorem w6 {b : Bool} {l : List Ob} (h : ifB b = some l) : b = true /\ l = [] := by
 cases b with
 | true => injection h with h; exact ⟨rfl, h.symm⟩
 | false => cases h
theorem pC {k k' : IntKind} (h : fy k k' = true) : k = k' := by cases k <;> cases k' <;> first | rfl | (simp [fy] at h)
section
variable {e e' : Env} {pr : Nat -> E} {cx : Nat -> Bool} {σ : Nat -> Nat}
mutual
theorem entC_ok (hn : cY e e' pr cx) : ∀ {x y : SV} {l : List Ob}, entC pr cx σ x y = some l -> cL e l -> SV.aV e e' σ x y := by
 intro x y l h ht; cases y with
 | top => cases x <;> trivial
 | int k b =>
   cases x <;> simp only [entC] at h <;> try (cases h; done)
   rename_i k' a; cases hk : fy k' k with
   | false => rw [hk] at h; cases h
   | true =>
     rw [hk] at h; simp only [cond_true, Option.some.injEq] at h; subst h; exact ⟨pC hk, by rw [gC ht, E.aO hn]⟩
 | bool b =>
   cases x <;> simp only [entC] at h <;> try (cases h; done)
   simp only [Option.some.injEq] at h; subst h; show _ = _; rw [Bw ht, E.aO hn]
 | str b =>
   cases x <;> simp only [entC] at h <;> try (cases h; done)
   simp only [Option.some.injEq] at h; subst h; show _ = _; rw [GX ht, E.aO hn]
 | BZ f => cases x <;> simp [entC] at h
 | val d b =>
   cases x with
   | val c a =>
     simp only [entC] at h; cases hb : (Nat.beq c d && cx c) with
     | false => rw [hb] at h; cases h
     | true =>
       rw [hb] at h; simp only [cond_true, Option.some.injEq] at h; subst h; rw [Bool.and_eq_true] at hb; obtain rfl := Nat.eq_of_beq_eq_true hb.1; show e.val c _ = e'.val c _; rw [hn.val c hb.2, gC ht, E.aO hn]
   | _ => simp [entC] at h
 | cg ks b =>
   cases x <;> simp only [entC] at h <;> try (cases h; done)
   ·simp only [Option.some.injEq] at h; subst h; show (b.den e').T = []; rw [<- E.aO hn]; exact (iu ht).symm
   ·rename_i ks' a; cases hk : ks'.same ks with
    | false => rw [hk] at h; cases h
    | true =>
      rw [hk] at h; simp only [cond_true, Option.some.injEq] at h; subst h; refine ⟨aJ.ax hk, ?_⟩; rw [<- E.aO hn]; exact iu ht
   ·rename_i ks' a; cases hk : ks'.same ks with
    | false => rw [hk] at h; cases h
    | true =>
      rw [hk] at h; simp only [cond_true, Option.some.injEq] at h; subst h; refine ⟨aJ.ax hk, ?_⟩; rw [<- E.aO hn]; exact iu ht
 | gV ks b =>
   cases x <;> simp only [entC] at h <;> try (cases h; done)
   rename_i ks' a; cases hk : ks'.same ks with
   | false => rw [hk] at h; cases h
   | true =>
     rw [hk] at h; simp only [cond_true, Option.some.injEq] at h; subst h; refine ⟨aJ.ax hk, ?_⟩; rw [<- E.aO hn]; exact iu ht
 | dC ks b i' j' =>
   cases x <;> simp only [entC] at h <;> try (cases h; done)
   rename_i ks' a i j; cases hk : (ks'.same ks && Nat.beq j j') with
   | false => rw [hk] at h; cases h
   | true =>
     rw [hk] at h; simp only [cond_true, Option.some.injEq] at h; subst h; rw [Bool.and_eq_true] at hk; refine ⟨aJ.ax hk.1, Nat.eq_of_beq_eq_true hk.2, fun m => ?_⟩; have h1 := iu ht; have h2 : ((yw a i).den e).at 0 m = ((yw (b.aR pr) (i'.aR pr)).den e).at 0 m := by unfold Dv.at; rw [h1]
     rw [rk, rk, E.aO hn, E.aO hn] at h2; exact h2
 | pq T' i' j' =>
   cases x with
   | gm =>
     cases j' with
     | succ j => simp only [entC] at h; cases h
     | zero =>
       simp only [entC, Option.some.injEq] at h; subst h; have h1 : ((Kr (i'.aR pr) (.il 0)).den e).B = true := ht _ (List.mem_singleton.2 rfl); rw [u5, E.aO hn] at h1; exact ⟨rfl, h1⟩
   | pq T i j =>
     simp only [entC] at h; cases hk : (Nat.beq T T' && Nat.beq j j') with
     | false => rw [hk] at h; cases h
     | true =>
       rw [hk] at h; simp only [cond_true, Option.some.injEq] at h; subst h; rw [Bool.and_eq_true] at hk; exact ⟨Nat.eq_of_beq_eq_true hk.1, Nat.eq_of_beq_eq_true hk.2, by rw [gC ht, E.aO hn]⟩
   | _ => simp only [entC] at h; cases h
 | gm => cases x <;> simp [entC] at h <;> trivial
 | mS => cases x <;> simp [entC] at h <;> trivial
 | ptr m o =>
   cases x with
   | ptr n o2 =>
     cases o with
     | el _ _ _ => cases o2 <;> simp [entC] at h
     | c j' =>
       cases o2 with
       | el _ _ _ => simp [entC] at h
       | c j =>
         simp only [entC] at h; obtain ⟨hb, rfl⟩ := w6 h; simp only [Bool.and_eq_true, Nat.beq_eq] at hb; exact ⟨hb.1, by show j = j'; exact hb.2⟩
   | _ => simp [entC] at h
 | cr => cases x <;> simp [entC] at h <;> trivial
 | sl m sz' lo' len' =>
   cases x with
   | sl n sz lo len =>
     simp only [entC] at h; cases hb : (Nat.beq n (σ m) && Nat.beq sz sz') with
     | false => rw [hb] at h; cases h
     | true =>
       rw [hb] at h; simp only [cond_true, Option.some.injEq] at h; subst h; simp only [Bool.and_eq_true, Nat.beq_eq] at hb; obtain ⟨t1, t2⟩ := aM.1 ht; exact ⟨hb.1, hb.2, by rw [gC t1, E.aO hn], by rw [gC t2, E.aO hn]⟩
   | _ => simp [entC] at h
 | cC => cases x <;> simp [entC] at h <;> trivial
 | map m =>
   cases x with
   | map n =>
     simp only [entC] at h; obtain ⟨hb, rfl⟩ := w6 h; exact Nat.eq_of_beq_eq_true hb
   | _ => simp [entC] at h
 | chan m =>
   cases x with
   | chan n =>
     simp only [entC] at h; obtain ⟨hb, rfl⟩ := w6 h; exact Nat.eq_of_beq_eq_true hb
   | _ => simp [entC] at h
 | mF => cases x <;> simp [entC] at h <;> trivial
 | iC => cases x <;> simp [entC] at h <;> trivial
 | fn g b d =>
   cases x with
   | fn f a c =>
     cases f <;> cases g <;> simp only [entC] at h <;> try (cases h; done)
     rename_i f g; cases hb : Nat.beq f g with
     | false => rw [hb] at h; cases h
     | true =>
       rw [hb] at h; obtain ⟨l1, l2, h1, h2, rfl⟩ := fV h; obtain ⟨t1, t2⟩ := aM.1 ht; exact ⟨by rw [Nat.eq_of_beq_eq_true hb], entCs_ok hn h1 t1, entCs_ok hn h2 t2⟩
   | _ => simp [entC] at h
 | dO => cases x <;> simp [entC] at h <;> trivial
 | eh u y =>
   cases x with
   | eh t x =>
     simp only [entC] at h; cases hb : Nat.beq t u with
     | false => rw [hb] at h; cases h
     | true => rw [hb] at h; exact ⟨Nat.eq_of_beq_eq_true hb, entC_ok hn h ht⟩
   | _ => simp [entC] at h
 | agg m => cases x <;> simp only [entC] at h <;> first | (cases h; done) | exact entCs_ok hn h ht
 | fq m => cases x <;> simp only [entC] at h <;> first | (cases h; done) | exact entCs_ok hn h ht
 | B1 u => cases x <;> simp [entC] at h
theorem entCs_ok (hn : cY e e' pr cx) : ∀ {xs ys : List SV} {l : List Ob}, entCs pr cx σ xs ys = some l -> cL e l -> SV.ents e e' σ xs ys := by
 intro xs ys l h ht; cases xs with
 | nil => cases ys <;> simp only [entCs] at h <;> first | trivial | (cases h; done)
 | cons x xs =>
   cases ys with
   | nil => simp [entCs] at h
   | cons y ys =>
     simp only [entCs] at h; obtain ⟨l1, l2, h1, h2, rfl⟩ := fV h; obtain ⟨t1, t2⟩ := aM.1 ht; exact ⟨entC_ok hn h1 t1, entCs_ok hn h2 t2⟩
end
end
def ch.same : ch -> ch -> Bool
 | .int k c, .int k' d => fy k k' && Nat.beq c d
 | .bool c, .bool d => Nat.beq c d
 | .str c, .str d => Nat.beq c d
 | .val c, .val d => Nat.beq c d
 | .cg ks c, .cg ks' d => ks.same ks' && Nat.beq c d
 | _, _ => false
theorem ch.ax {a b : ch} (h : a.same b = true) : a = b := by
 cases a <;> cases b <;> simp only [ch.same, Bool.and_eq_true, Nat.beq_eq] at h <;> first
  | (obtain ⟨h1, h2⟩ := h; rw [pC h1, h2]; done)
  | (obtain ⟨h1, h2⟩ := h; rw [aJ.ax h1, h2]; done)
  | (rw [h]; done)
  | (cases h; done)
def oy : List ch -> List ch -> Bool
 | [], [] => true
 | a :: l, b :: m => a.same b && oy l m
 | _, _ => false
theorem tO : ∀ {l m : List ch}, oy l m = true -> l = m
 | [], [], _ => rfl
 | [], _ :: _, h => by cases h
 | _ :: _, [], h => by cases h
 | a :: l, b :: m, h => by
   simp only [oy, Bool.and_eq_true] at h; rw [ch.ax h.1, tO h.2]
def ch.G8 (pr : Nat -> E) (cx : Nat -> Bool) : ch -> ch -> Bool
 | .tc k x j, .tc k' y j' => k.same k' && x.same (y.aR pr) && Nat.beq j j'
 | .val c, .val d => Nat.beq c d && cx c
 | a, b => a.same b
def mq (pr : Nat -> E) (cx : Nat -> Bool) : List ch -> List ch -> Bool
 | [], [] => true
 | a :: l, b :: m => a.G8 pr cx b && mq pr cx l m
 | _, _ => false
def kR : DK -> E -> SV -> Option (List Ob)
 | .int k, t, .int k' a => cond (fy k' k) (some (rM a t)) none
 | .bool, t, .bool a => some (Nv a t)
 | .str, t, .str a => some (Ql a t)
 | .sl ks, t, .cg ks' a => cond (ks'.same ks) (some (sZ a t)) none
 | .sl ks, t, .cr => some (sZ (.il 0) t)
 | .fp ks, t, .dC ks' a i 0 => cond (ks'.same ks) (some (sZ (yw a i) t)) none
 | .eh ty k, t, .eh ty' x => cond (Nat.beq ty' ty) (kR k t x) none
 | .nilm, _, .cC => some []
 | .ap T, t, .pq T' a 0 => cond (Nat.beq T' T) (some (rM a t)) none
 | .ap _, t, .gm => some [.e (Kr t (.il 0))]
 | _, _, _ => none
def HY (pr : Nat -> E) : ch -> SV -> E -> Option (List Ob)
 | .int k c, x, ix => kR (.int k) (.fn c ix) x
 | .bool c, x, ix => kR .bool (.fn c ix) x
 | .str c, x, ix => kR .str (.fn c ix) x
 | .cg ks c, x, ix => kR (.sl ks) (.fn c ix) x
 | .tc k e j, x, ix => kR k (.o2 (.cell j) (e.aR pr) ix) x
 | .val _, _, _ => none
def wE (pr : Nat -> E) : List ch -> List SV -> E -> Option (List Ob)
 | [], _, _ => some []
 | c :: cs, x :: xs, ix => vW (HY pr c x ix) (wE pr cs xs ix)
 | _ :: _, [], _ => none
def vd (pr : Nat -> E) (cols : List ch) (len : E) : Nat -> List (List SV) -> Option (List Ob)
 | _, [] => some []
 | k, t :: r => vW (wE pr cols t (z8 len (.il (k : Nat)))) (vd pr cols len (k + 1) r)
def jg : E -> Bool
 | .il 0 => true
 | _ => false
def kX (cx : Nat -> Bool) : List ch -> Bool
 | [] => true
 | .val c :: r => cx c && kX cx r
 | .tc _ _ _ :: _ => false
 | _ :: r => kX cx r
def mg.pri (pr : Nat -> E) : mg -> mg
 | .c j => .c j
 | .el i sz j => .el (i.aR pr) sz j
mutual
def SV.pZ (τ : Nat -> Nat) (pr : Nat -> E) : SV -> SV
 | .int k e => .int k (e.aR pr)
 | .bool e => .bool (e.aR pr)
 | .str e => .str (e.aR pr)
 | .val c i => .val c (i.aR pr)
 | .ptr n o => .ptr (τ n) (o.pri pr)
 | .sl n sz lo len => .sl (τ n) sz (lo.aR pr) (len.aR pr)
 | .cg ks e => .cg ks (e.aR pr)
 | .gV ks e => .gV ks (e.aR pr)
 | .dC ks e i j => .dC ks (e.aR pr) (i.aR pr) j
 | .pq T i j => .pq T (i.aR pr) j
 | .map n => .map (τ n)
 | .chan n => .chan (τ n)
 | .fn f a c => .fn f (SV.rens τ pr a) (SV.rens τ pr c)
 | .eh t x => .eh t (SV.pZ τ pr x)
 | .agg l => .agg (SV.rens τ pr l)
 | .fq l => .fq (SV.rens τ pr l)
 | x => x
def SV.rens (τ : Nat -> Nat) (pr : Nat -> E) : List SV -> List SV
 | [] => []
 | x :: l => SV.pZ τ pr x :: SV.rens τ pr l
end
def KV.pZ (τ : Nat -> Nat) (pr : Nat -> E) : KV -> KV
 | .no => .no
 | .yes x => .yes (x.pZ τ pr)
 | .may b x => .may (b.aR pr) (x.pZ τ pr)
def oA (τ : Nat -> Nat) (pr : Nat -> E) (l : List (SV × KV)) : List (SV × KV) := l.map fun x => (x.1.pZ τ pr, x.2.pZ τ pr)
mutual
def SV.noval : SV -> Bool
 | .val _ _ => false
 | .agg l => SV.novals l
 | _ => true
def SV.novals : List SV -> Bool
 | [] => true
 | x :: l => SV.noval x && SV.novals l
end
mutual
theorem SV.fl_ren {e e' : Env} {pr : Nat -> E} {cx : Nat -> Bool} {τ : Nat -> Nat} (hn : cY e e' pr cx) : ∀ {x : SV}, x.noval = true -> SV.fl e (x.pZ τ pr) = SV.fl e' x
 | .int .., _ => by simp only [SV.pZ, SV.fl, E.aO hn]
 | .bool .., _ => by simp only [SV.pZ, SV.fl, E.aO hn]
 | .str .., _ => by simp only [SV.pZ, SV.fl, E.aO hn]
 | .val .., h => by cases h
 | .gm, _ => rfl
 | .cr, _ => rfl
 | .dO, _ => rfl
 | .agg l, h => by simp only [SV.pZ, SV.fl, SV.fls_ren hn (l := l) h]
 | .BZ .., _ => rfl
 | .ptr .., _ => rfl
 | .mS, _ => rfl
 | .pq .., _ => rfl
 | .sl .., _ => rfl
 | .cg .., _ => rfl
 | .gV .., _ => rfl
 | .dC .., _ => rfl
 | .cC, _ => rfl
 | .map .., _ => rfl
 | .chan .., _ => rfl
 | .mF, _ => rfl
 | .iC, _ => rfl
 | .fn .., _ => rfl
 | .eh .., _ => rfl
 | .fq .., _ => rfl
 | .top, _ => rfl
 | .B1 .., _ => rfl
theorem SV.fls_ren {e e' : Env} {pr : Nat -> E} {cx : Nat -> Bool} {τ : Nat -> Nat} (hn : cY e e' pr cx) : ∀ {l : List SV}, SV.novals l = true -> SV.fls e (SV.rens τ pr l) = SV.fls e' l
 | [], _ => rfl
 | x :: l, h => by
   simp only [SV.novals, Bool.and_eq_true] at h; simp only [SV.rens, SV.fls, SV.fl_ren hn h.1, SV.fls_ren hn h.2]
end
def eU : List (SV × KV) -> Bool
 | [] => true
 | (k, .no) :: r => k.noval && eU r
 | (k, .yes x) :: r => k.noval && x.noval && eU r
 | (k, .may _ x) :: r => k.noval && x.noval && eU r
theorem uX {e e' : Env} {pr : Nat -> E} {cx : Nat -> Bool} {τ : Nat -> Nat} (hn : cY e e' pr cx) : ∀ {l : List (SV × KV)}, eU l = true -> DG e (oA τ pr l) = DG e' l
 | [], _ => rfl
 | (k, x) :: l, h => by
   have e1 : DG e (oA τ pr ((k, x) :: l)) = (match SV.fl e (k.pZ τ pr), Mk e (x.pZ τ pr), DG e (oA τ pr l) with | some a, some b, some r => some ((a, b) :: r) | _, _, _ => none) := rfl
   have e2 : DG e' ((k, x) :: l) = (match SV.fl e' k, Mk e' x, DG e' l with | some a, some b, some r => some ((a, b) :: r) | _, _, _ => none) := rfl
   rw [e1, e2]; cases x with
   | no => simp only [eU, Bool.and_eq_true] at h; rw [SV.fl_ren hn h.1, uX hn h.2]; rfl
   | yes x => simp only [eU, Bool.and_eq_true] at h; simp only [KV.pZ, Mk, SV.fl_ren hn h.1.1, SV.fl_ren hn h.1.2, uX hn h.2]
   | may b x => simp only [eU, Bool.and_eq_true] at h; simp only [KV.pZ, Mk, SV.fl_ren hn h.1.1, SV.fl_ren hn h.1.2, uX hn h.2, E.aO hn]
def KZ (kk : KK) (m : Nat) (ix : E) (known : List (SV × KV)) (m' : Nat) (ix' : E) (known' : List (SV × KV)) : List Ob :=
 cond (known.isEmpty && known'.isEmpty && Nat.beq m m' && ix.same ix') [] [.mp kk m ix known m' ix' known']
theorem NH {e : Env} {kk : KK} {m m' : Nat} {ix ix' : E} {known known' : List (SV × KV)} (h : cL e (KZ kk m ix known m' ix' known')) : (Ob.mp kk m ix known m' ix' known').den e := by
 unfold KZ at h; cases hb : (known.isEmpty && known'.isEmpty && Nat.beq m m' && ix.same ix') with
 | false => rw [hb] at h; exact h _ (List.mem_singleton.2 rfl)
 | true =>
   simp only [Bool.and_eq_true] at hb; obtain ⟨⟨⟨h1, h1'⟩, h2⟩, h3⟩ := hb; have h1 : known = [] := by simpa using h1
   have h1' : known' = [] := by simpa using h1'
   subst h1; subst h1'; rw [Nat.eq_of_beq_eq_true h2, E.ax h3]; exact ⟨[], [], rfl, rfl, fun k _ => rfl⟩
theorem vC {cx : Nat -> Bool} {c : Nat} : ∀ {l : List ch}, kX cx l = true -> ch.val c ∈ l -> cx c = true
 | [], _, h => by cases h
 | bY :: r, ho, h => by
   rcases List.mem_cons.1 h with e | h
   ·subst e; simp only [kX, Bool.and_eq_true] at ho; exact ho.1
   ·refine vC (l := r) ?_ h; cases bY <;> simp only [kX, Bool.and_eq_true] at ho <;> first | exact ho.2 | exact ho | (cases ho; done)
theorem yM {cx : Nat -> Bool} {k : DK} {x : E} {j : Nat} : ∀ {l : List ch}, kX cx l = true -> ¬ ch.tc k x j ∈ l
 | [], _, h => by cases h
 | bY :: r, ho, h => by
   rcases List.mem_cons.1 h with e | h
   ·subst e; simp only [kX] at ho; cases ho
   ·refine yM (cx := cx) (l := r) ?_ h; cases bY <;> simp only [kX, Bool.and_eq_true] at ho <;> first | exact ho.2 | exact ho | (cases ho; done)
theorem RP {e e' : Env} {pr : Nat -> E} {cx : Nat -> Bool} {σ : Nat -> Nat} (hn : cY e e' pr cx) {l : List ch} (ho : kX cx l = true) {bY : ch} (hm : bY ∈ l) (i : Int) : SV.aV e e' σ (bY.at (.il i)) (bY.at (.il i)) := by
 cases bY with
 | int k c => exact ⟨rfl, by simp only [E.den, hn.fn]⟩
 | bool c => show _ = _; simp only [E.den, hn.fn]
 | str c => show _ = _; simp only [E.den, hn.fn]
 | val c => show e.val c _ = e'.val c _; rw [hn.val c (vC ho hm)]; rfl
 | cg ks c => exact ⟨rfl, by simp only [E.den, hn.fn]⟩
 | tc k x j => exact absurd hm (yM ho)
theorem pT {e e' : Env} {σ : Nat -> Nat} {x y : E} (h : x.den e = y.den e') : ∀ {k : DK}, SV.aV e e' σ (gG k x) (gG k y)
 | .int _ => ⟨rfl, by rw [h]⟩
 | .bool => by show _ = _; rw [h]
 | .str => by show _ = _; rw [h]
 | .sl _ => ⟨rfl, by rw [h]⟩
 | .fp _ => ⟨rfl, rfl, fun m => by rw [h]; rfl⟩
 | .eh _ k => ⟨rfl, pT h (k := k)⟩
 | .nilm => trivial
 | .ap _ => ⟨rfl, rfl, by rw [h]⟩
theorem KN {e e' : Env} {pr : Nat -> E} {cx : Nat -> Bool} {σ : Nat -> Nat} (hn : cY e e' pr cx) {a b : ch} (h : a.G8 pr cx b = true) (i : Int) : SV.aV e e' σ (a.at (.il i)) (b.at (.il i)) := by
 have main : ∀ {a b : ch}, a.same b = true -> (∀ c, a ≠ .val c) -> SV.aV e e' σ (a.at (.il i)) (b.at (.il i)) := by
  intro a b h hv; have := ch.ax h; subst this; cases a with
  | int k c => exact ⟨rfl, by simp only [E.den, hn.fn]⟩
  | bool c => show _ = _; simp only [E.den, hn.fn]
  | str c => show _ = _; simp only [E.den, hn.fn]
  | val c => exact absurd rfl (hv c)
  | cg ks c => exact ⟨rfl, by simp only [E.den, hn.fn]⟩
  | tc k x j => simp only [ch.same] at h; cases h
 unfold ch.G8 at h; split at h
 ·simp only [Bool.and_eq_true] at h; rw [DK.ax h.1.1, Nat.eq_of_beq_eq_true h.2]; simp only [ch.at]; refine pT ?_; rw [E.ax h.1.2]; simp only [E.den, E.aO hn]
 ·rw [Bool.and_eq_true] at h; rw [Nat.eq_of_beq_eq_true h.1] at *; show e.val _ _ = e'.val _ _; rw [hn.val _ h.2]; rfl
 ·rename_i hnt hnv
  exact main h fun c hc => by
   subst hc; cases b <;> simp only [ch.same] at h <;> first | (cases h; done) | skip
   exact hnv _ _ rfl rfl
theorem qn {pr : Nat -> E} {cx : Nat -> Bool} : ∀ {l m : List ch} {j : Nat} {b : ch}, mq pr cx l m = true -> m[j]? = some b -> ∃ a, l[j]? = some a /\ a.G8 pr cx b = true
 | [], [], j, b, _, h => by simp at h
 | [], _ :: _, _, _, h, _ => by cases h
 | _ :: _, [], _, _, h, _ => by cases h
 | a :: l, b :: m, j, c, h, hj => by
   simp only [mq, Bool.and_eq_true] at h; cases j with
   | zero => simp at hj; subst hj; exact ⟨a, rfl, h.1⟩
   | succ j => obtain ⟨x, h1, h2⟩ := qn h.2 (by simpa using hj); exact ⟨x, by simpa using h1, h2⟩
section
variable {e e' : Env} {pr : Nat -> E} {cx : Nat -> Bool} {σ : Nat -> Nat}
theorem mH {k : DK} {t y : E} {x : SV} {l : List Ob} (h : kR k t x = some l) (ht : cL e l) (hy : t.den e = y.den e') : SV.aV e e' σ x (gG k y) := by
 cases k with
 | fp ks =>
   cases x with
   | dC ks' a i j =>
     cases j with
     | succ j => cases h
     | zero =>
       simp only [kR] at h; cases hk : ks'.same ks with
       | false => rw [hk] at h; cases h
       | true =>
         rw [hk] at h; simp only [cond_true, Option.some.injEq] at h; subst h; refine ⟨aJ.ax hk, rfl, fun m => ?_⟩; have h1 := iu ht; have h2 : ((yw a i).den e).at 0 m = (t.den e).at 0 m := by unfold Dv.at; rw [h1]
         rw [rk, hy] at h2; exact h2
   | _ => cases h
 | eh ty k =>
   cases x with
   | eh ty' x =>
     simp only [kR] at h; cases hk : Nat.beq ty' ty with
     | false => rw [hk] at h; cases h
     | true =>
       rw [hk] at h; exact ⟨Nat.eq_of_beq_eq_true hk, mH (k := k) h ht hy⟩
   | _ => cases h
 | nilm =>
   cases x with
   | cC => trivial
   | _ => cases h
 | ap T =>
   cases x with
   | gm =>
     simp only [kR, Option.some.injEq] at h; subst h; have h1 : ((Kr t (.il 0)).den e).B = true := ht _ (List.mem_singleton.2 rfl); rw [u5, hy] at h1; exact ⟨rfl, h1⟩
   | pq T' a j =>
     cases j with
     | succ j => cases h
     | zero =>
       simp only [kR] at h; cases hk : Nat.beq T' T with
       | false => rw [hk] at h; cases h
       | true =>
         rw [hk] at h; simp only [cond_true, Option.some.injEq] at h; subst h; exact ⟨Nat.eq_of_beq_eq_true hk, rfl, by rw [gC ht, hy]⟩
   | _ => cases h
 | int k =>
   cases x <;> simp only [kR] at h <;> try (cases h; done)
   rename_i k' a; cases hk : fy k' k with
   | false => rw [hk] at h; cases h
   | true =>
     rw [hk] at h; simp only [cond_true, Option.some.injEq] at h; subst h; refine ⟨pC hk, ?_⟩; rw [gC ht, hy]
 | bool =>
   cases x <;> simp only [kR] at h <;> try (cases h; done)
   simp only [Option.some.injEq] at h; subst h; show _ = _; rw [Bw ht, hy]
 | str =>
   cases x <;> simp only [kR] at h <;> try (cases h; done)
   simp only [Option.some.injEq] at h; subst h; show _ = _; rw [GX ht, hy]
 | sl ks =>
   cases x <;> simp only [kR] at h <;> try (cases h; done)
   ·simp only [Option.some.injEq] at h; subst h; show (y.den e').T = []; rw [<- hy, <- iu ht]; rfl
   ·rename_i ks' a; cases hk : ks'.same ks with
    | false => rw [hk] at h; cases h
    | true =>
      rw [hk] at h; simp only [cond_true, Option.some.injEq] at h; subst h; exact ⟨aJ.ax hk, by rw [iu ht, hy]⟩
theorem EP (hn : cY e e' pr cx) {c : ch} {x : SV} {ix : E} {z : Int} (hz : (ix.den e).I = z) {l : List Ob} (h : HY pr c x ix = some l) (ht : cL e l) : SV.aV e e' σ x (c.at (.il z)) := by
 have hfn : ∀ c, (E.fn c ix).den e = (E.fn c (.il z)).den e' := fun c => by simp only [E.den, hz, hn.fn]; rfl
 cases c with
 | int k c => exact mH (k := .int k) h ht (hfn c)
 | bool c => exact mH (k := .bool) h ht (hfn c)
 | str c => exact mH (k := .str) h ht (hfn c)
 | cg ks c => exact mH (k := .sl ks) h ht (hfn c)
 | tc k y j =>
   refine mH h ht ?_; simp only [E.den, E.aO hn, O2.den, hz]; rfl
 | val c => cases h
theorem zt (hn : cY e e' pr cx) {ix : E} {z : Int} (hz : (ix.den e).I = z) : ∀ {cols : List ch} {t : List SV} {l : List Ob}, wE pr cols t ix = some l -> cL e l ->
    ∀ (j : Nat) (bY : ch), cols[j]? = some bY -> ∃ x, t[j]? = some x /\ SV.aV e e' σ x (bY.at (.il z))
 | [], t, l, _, _, j, bY, hj => by simp at hj
 | c :: cs, [], l, h, _, _, _, _ => by simp [wE] at h
 | c :: cs, x :: xs, l, h, ht, j, bY, hj => by
   simp only [wE] at h; obtain ⟨l1, l2, h1, h2, rfl⟩ := fV h; obtain ⟨t1, t2⟩ := aM.1 ht; cases j with
   | zero =>
     simp at hj; subst hj; exact ⟨x, rfl, EP hn hz h1 t1⟩
   | succ j =>
     obtain ⟨y, hy, hent⟩ := zt hn hz h2 t2 j bY (by simpa using hj)
     exact ⟨y, by simpa using hy, hent⟩
theorem vx (hn : cY e e' pr cx) {cols : List ch} {len : E} : ∀ {tail : List (List SV)} {k0 : Nat} {l : List Ob}, vd pr cols len k0 tail = some l -> cL e l ->
    ∀ (j : Nat) (bY : ch), cols[j]? = some bY -> ∀ (k : Nat) (t : List SV), tail[k]? = some t -> ∃ x, t[j]? = some x /\ SV.aV e e' σ x (bY.at (.il ((len.den e).I + (k0 + k : Nat))))
 | [], k0, l, _, _, j, bY, hj, k, t, hk => by simp at hk
 | u :: r, k0, l, h, ht, j, bY, hj, k, t, hk => by
   simp only [vd] at h; obtain ⟨l1, l2, h1, h2, rfl⟩ := fV h; obtain ⟨t1, t2⟩ := aM.1 ht; cases k with
   | zero =>
     simp at hk; subst hk; exact zt hn (z := (len.den e).I + (k0 + 0 : Nat)) (by rw [jA]; rfl) h1 t1 j bY hj
   | succ k =>
     have := vx hn h2 t2 j bY hj k t (by simpa using hk)
     rw [show k0 + 1 + k = k0 + (k + 1) by omega] at this
     exact this
end
def agf (P : Program) (T : TypeId) : Option aJ := (iA P 10 T).bind qh
def vF (ks : aJ) (len : E) (cols : List ch) : Option (E × List Ob) :=
 match H3 cols with
 | some e => cond (jO ks e 0 cols) (some (cond (len.same (fZ .ab e)) (e, []) (.o2 .de e len, [.e (kY (.il 0) len), .e (kY len (fZ .ab e))]))) none
 | none => cond (cols.isEmpty && jg len) (some (.il 0, [])) none
section
variable {env : Env} {ρ : af}
theorem D7 {ks : aJ} {len e : E} {cols : List ch} {obs : List Ob} {base : Nat -> Option Value} (h : vF ks len cols = some (e, obs)) (ht : cL env obs) (hk : 0 < ks.len)
    (hb : ∀ (i : Nat), i < (len.den env).I.toNat -> ∀ (j : Nat) (bY : ch), cols[j]? = some bY -> ∃ v, base (i * ks.len + j) = some v /\ (bY.at (.il i)).Rel env ρ v) :
    (len.den env).I = (e.den env).T.length /\ ∀ i, i < (e.den env).T.length -> ks.Rel ρ.fz (fun j => (e.den env).at i j) (fun j => base (i * ks.len + j)) 0 := by
 unfold vF at h; split at h
 ·rename_i x hx; cases hp : jO ks x 0 cols with
  | false => rw [hp] at h; cases h
  | true =>
    rw [hp] at h; simp only [cond_true, Option.some.injEq] at h
    have row : ∀ i, i < (len.den env).I.toNat -> ks.Rel ρ.fz (fun j => (x.den env).at i j) (fun j => base (i * ks.len + j)) 0 := fun i hi =>
     (rm (i := i) (f := fun j => base (i * ks.len + j)) hp fun m bY hm => by
      obtain ⟨v, h1, h2⟩ := hb i hi m bY hm
      exact ⟨v, by show base (i * ks.len + (0 + m)) = _; rw [Nat.zero_add]; exact h1, h2⟩).1
    cases hs : len.same (fZ .ab x) with
    | true =>
      rw [hs] at h; simp only [cond_true, Prod.mk.injEq] at h; obtain ⟨rfl, rfl⟩ := h; have hlen : (len.den env).I = (x.den env).T.length := by rw [E.ax hs, bA]; rfl
      exact ⟨hlen, fun i hi => row i (by omega)⟩
    | false =>
      rw [hs] at h; simp only [cond_false, Prod.mk.injEq] at h; obtain ⟨rfl, rfl⟩ := h; have h0 : ((kY (.il 0) len).den env).B = true := ht _ (List.mem_cons_self ..); have h1 : ((kY len (fZ .ab x)).den env).B = true := ht _ (List.mem_cons_of_mem _ (List.mem_cons_self ..)); rw [cq] at h0 h1; rw [bA] at h1; have h0 : (0 : Int) <= (len.den env).I := h0; have h1 : (len.den env).I <= ((x.den env).T.length : Int) := h1; have hT : ((E.o2 .de x len).den env).T = (x.den env).T.take (len.den env).I.toNat := rfl; have hTl : ((E.o2 .de x len).den env).T.length = (len.den env).I.toNat := by rw [hT, List.length_take]; omega
      refine ⟨by rw [hTl]; omega, fun i hi => ?_⟩
      rw [hTl] at hi
      have e1 : (fun j => ((E.o2 .de x len).den env).at i j) = fun j => (x.den env).at i j := by
       funext j
       unfold Dv.at; rw [hT, List.getElem?_take_of_lt hi]
      rw [e1]; exact row i hi
 ·cases hc : (cols.isEmpty && jg len) with
  | false => rw [hc] at h; cases h
  | true =>
    rw [hc] at h; simp only [cond_true, Option.some.injEq, Prod.mk.injEq] at h; obtain ⟨rfl, rfl⟩ := h; rw [Bool.and_eq_true] at hc
    have h0 : (len.den env).I = 0 := by
     have := hc.2; unfold jg at this; split at this
     ·rfl
     ·cases this
    exact ⟨by rw [h0]; rfl, fun i hi => absurd hi (Nat.not_lt_zero i)⟩
end
def Ua : List ch -> Option aJ
 | [] => some .nil
 | .tc k _ _ :: r => (Ua r).map (.cons k)
 | _ :: _ => none
def FC (pr : Nat -> E) (len : E) (cols : List ch) (tail : List (List SV)) (sz : Nat) (len' : E) (cols' : List ch) : Option (List Ob) :=
 match H3 cols', Ua cols' with
 | some x, some ks =>
   cond (jO ks x 0 cols' && len'.same (fZ .ab x) && Nat.beq ks.len sz && Nat.blt 0 sz)
    (match vF ks len cols, om ks tail with
    | some (b, obs), some t => some (obs ++ [.t (bB b t) (x.aR pr)])
    | _, _ => none) none
 | _, _ => none
theorem sN {e : E} : ∀ {ks : aJ} {j m : Nat} {cols : List ch} {bY : ch}, jO ks e j cols = true -> cols[m]? = some bY -> ∃ k, ks.get m = some k /\ bY = .tc k e (j + m)
 | .nil, j, m, [], _, _, hm => by simp at hm
 | .nil, _, _, _ :: _, _, h, _ => by cases h
 | .cons _ _, _, _, [], _, h, _ => by cases h
 | .cons k r, j, m, c :: cs, bY, h, hm => by
   cases c with
   | tc k' e' j' =>
     simp only [jO, Bool.and_eq_true] at h; obtain ⟨⟨⟨h1, h2⟩, h3⟩, h4⟩ := h; cases m with
     | zero =>
       simp only [List.getElem?_cons_zero, Option.some.injEq] at hm; subst hm; exact ⟨k, rfl, by rw [<- DK.ax h1, <- E.ax h2, <- Nat.eq_of_beq_eq_true h3]; rfl⟩
     | succ m =>
       obtain ⟨k2, g1, g2⟩ := sN h4 (by simpa using hm)
       exact ⟨k2, g1, by rw [g2, show j + 1 + m = j + (m + 1) by omega]⟩
   | _ => cases h
theorem zj {e : E} : ∀ {ks : aJ} {j : Nat} {cols : List ch}, jO ks e j cols = true -> cols.length = ks.len
 | .nil, j, [], _ => rfl
 | .nil, _, _ :: _, h => by cases h
 | .cons _ _, _, [], h => by cases h
 | .cons k r, j, c :: cs, h => by
   cases c with
   | tc k' e' j' =>
     simp only [jO, Bool.and_eq_true] at h; simp [aJ.len, zj h.2]
   | _ => cases h
section
variable {e e' : Env} {pr : Nat -> E} {cx : Nat -> Bool} {σ : Nat -> Nat}
theorem Dj : ∀ {k : DK} {x : SV} {a y : E}, jk k x = some a -> a.den e = y.den e' -> SV.aV e e' σ x (gG k y) := by
 intro k x a y h hy; cases k with
 | int k =>
   cases x <;> simp only [jk] at h <;> try (cases h; done)
   rename_i k' a'; cases hk : fy k k' with
   | false => rw [hk] at h; cases h
   | true =>
     rw [hk] at h; simp only [cond_true, Option.some.injEq] at h; subst h; exact ⟨(pC hk).symm, by rw [hy]⟩
 | bool => cases x <;> simp only [jk] at h <;> try (cases h; done)
           simp only [Option.some.injEq] at h; subst h; show _ = _; rw [hy]
 | str => cases x <;> simp only [jk] at h <;> try (cases h; done)
          simp only [Option.some.injEq] at h; subst h; show _ = _; rw [hy]
 | sl ks =>
   cases x <;> simp only [jk] at h <;> try (cases h; done)
   ·simp only [Option.some.injEq] at h; subst h; show (y.den e').T = []; rw [<- hy]; rfl
   ·rename_i ks' a'; cases hk : ks.same ks' with
    | false => rw [hk] at h; cases h
    | true =>
      rw [hk] at h; simp only [cond_true, Option.some.injEq] at h; subst h; exact ⟨(aJ.ax hk).symm, by rw [hy]⟩
   ·rename_i ks' a'; cases hk : ks.same ks' with
    | false => rw [hk] at h; cases h
    | true =>
      rw [hk] at h; simp only [cond_true, Option.some.injEq] at h; subst h; exact ⟨(aJ.ax hk).symm, by rw [hy]⟩
 | fp ks =>
   cases x with
   | dC ks' c i j =>
     cases j with
     | succ j => cases h
     | zero =>
       simp only [jk] at h; cases hk : ks.same ks' with
       | false => rw [hk] at h; cases h
       | true =>
         rw [hk] at h; simp only [cond_true, Option.some.injEq] at h; subst h; exact ⟨(aJ.ax hk).symm, rfl, fun m => by rw [<- rk, hy]; rfl⟩
   | _ => cases h
 | eh t k =>
   cases x with
   | eh t' x =>
     simp only [jk] at h; cases hk : Nat.beq t t' with
     | false => rw [hk] at h; cases h
     | true =>
       rw [hk] at h; exact ⟨(Nat.eq_of_beq_eq_true hk).symm, Dj (k := k) h hy⟩
   | _ => cases h
 | nilm =>
   cases x with
   | cC => trivial
   | _ => cases h
 | ap T =>
   cases x with
   | gm =>
     simp only [jk, Option.some.injEq] at h; subst h; refine ⟨rfl, ?_⟩; rw [<- hy]; show (-1 : Int) < 0; decide
   | pq T' c j =>
     cases j with
     | succ j => cases h
     | zero =>
       simp only [jk] at h; cases hk : Nat.beq T T' with
       | false => rw [hk] at h; cases h
       | true =>
         rw [hk] at h; simp only [cond_true, Option.some.injEq] at h; subst h; exact ⟨(Nat.eq_of_beq_eq_true hk).symm, rfl, by rw [hy]⟩
   | _ => cases h
theorem Cv : ∀ {ks : aJ} {t : List SV} {a : E}, AM ks t = some a -> t.length = ks.len /\ (0 < ks.len -> (a.den e).T.length = 1) /\ ∀ (j : Nat) (k : DK), ks.get j = some k -> ∃ x y, t[j]? = some x /\ jk k x = some y /\ ((a.den e).T.head?.getD [])[j]? = some (y.den e)
 | .nil, [], a, h => by
   simp only [AM, Option.some.injEq] at h; exact ⟨rfl, fun h => absurd h (Nat.lt_irrefl 0), fun j k hk => by simp [aJ.get] at hk⟩
 | .nil, _ :: _, _, h => by cases h
 | .cons _ _, [], _, h => by cases h
 | .cons k r, x :: xs, a, h => by
   simp only [AM] at h; split at h
   ·rename_i b c h1 h2; injection h with h; subst h; obtain ⟨g1, _, g2⟩ := Cv h2; refine ⟨by simp [aJ.len, g1], fun _ => rfl, fun j k' hk => ?_⟩
    cases j with
    | zero =>
      simp only [aJ.get, Option.some.injEq] at hk; subst hk; exact ⟨x, b, rfl, h1, rfl⟩
    | succ j =>
      simp only [aJ.get] at hk; obtain ⟨x', y, a1, a2, a3⟩ := g2 j k' hk; exact ⟨x', y, by simpa using a1, a2, a3⟩
   ·cases h
theorem yY {ks : aJ} (h0 : 0 < ks.len) : ∀ {tail : List (List SV)} {a : E}, om ks tail = some a -> (a.den e).T.length = tail.length /\ ∀ (m : Nat) (t : List SV), tail[m]? = some t -> ∀ (j : Nat) (k : DK), ks.get j = some k -> ∃ x y, t[j]? = some x /\ jk k x = some y /\ y.den e = (a.den e).at m j
 | [], a, h => by
   simp only [om, Option.some.injEq] at h; subst h; exact ⟨rfl, fun m t hm => by simp at hm⟩
 | t :: r, a, h => by
   simp only [om] at h; split at h
   ·rename_i b c h1 h2; injection h with h; subst h; obtain ⟨_, g1, g2⟩ := Cv (e := e) h1; obtain ⟨k1, k2⟩ := yY h0 h2; have hb := g1 h0
    obtain ⟨l, hl⟩ : ∃ l, (b.den e).T = [l] := by
     match hq : (b.den e).T, hb with
     | [l], _ => exact ⟨l, rfl⟩
    have hT : ((bB b c).den e).T = l :: (c.den e).T := by rw [mV, hl]; rfl
    refine ⟨by rw [hT, List.length_cons, k1, List.length_cons], fun m u hm j k hk => ?_⟩
    cases m with
    | zero =>
      simp only [List.getElem?_cons_zero, Option.some.injEq] at hm; subst hm; obtain ⟨x, y, a1, a2, a3⟩ := g2 j k hk; refine ⟨x, y, a1, a2, ?_⟩; unfold Dv.at; rw [hT]; rw [hl] at a3; show y.den e = (l[j]?).getD (.i 0); have a3 : l[j]? = some (y.den e) := a3; rw [a3]; rfl
    | succ m =>
      obtain ⟨x, y, a1, a2, a3⟩ := k2 m u (by simpa using hm) j k hk
      refine ⟨x, y, a1, a2, ?_⟩; rw [a3]; unfold Dv.at; rw [hT]; rfl
   ·cases h
theorem Kd {ks : aJ} {len b : E} {cols : List ch} {obs : List Ob} (h : vF ks len cols = some (b, obs)) (ht : cL e obs) :
    (len.den e).I = (b.den e).T.length /\ ∀ i, i < (b.den e).T.length -> ∀ (j : Nat) (k : DK), ks.get j = some k -> ∃ x, cols[j]? = some (.tc k x j) /\ (x.den e).at i j = (b.den e).at i j := by
 have get2 : ∀ {x : E} {j : Nat} {k : DK}, jO ks x 0 cols = true -> ks.get j = some k -> cols[j]? = some (.tc k x j) := by
  intro x j k hp hk
  have cW : j < cols.length := by
   rw [zj hp]
   have : ∀ {ks : aJ} {j : Nat} {k : DK}, ks.get j = some k -> j < ks.len := by
    intro ks
    induction ks using aJ.rec (motive_1 := fun _ => True) with
    | nil => intro j k h; simp [aJ.get] at h
    | cons k0 r _ ih =>
      intro j k h; cases j with
      | zero => exact Nat.succ_pos _
      | succ j => simp only [aJ.get] at h; have := ih h; simp only [aJ.len]; omega
    | _ => trivial
   exact this hk
  obtain ⟨k', g1, g2⟩ := sN (m := j) hp (List.getElem?_eq_getElem cW); rw [hk] at g1; injection g1 with g1; subst g1; rw [List.getElem?_eq_getElem cW, g2, Nat.zero_add]
 unfold vF at h; split at h
 ·rename_i x hx; cases hp : jO ks x 0 cols with
  | false => rw [hp] at h; cases h
  | true =>
    rw [hp] at h; simp only [cond_true, Option.some.injEq] at h; cases hs : len.same (fZ .ab x) with
    | true =>
      rw [hs] at h; simp only [cond_true, Prod.mk.injEq] at h; obtain ⟨rfl, rfl⟩ := h; exact ⟨by rw [E.ax hs, bA]; rfl, fun i hi j k hk => ⟨x, get2 hp hk, rfl⟩⟩
    | false =>
      rw [hs] at h; simp only [cond_false, Prod.mk.injEq] at h; obtain ⟨rfl, rfl⟩ := h; have h0 : ((kY (.il 0) len).den e).B = true := ht _ (List.mem_cons_self ..); have h1 : ((kY len (fZ .ab x)).den e).B = true := ht _ (List.mem_cons_of_mem _ (List.mem_cons_self ..)); rw [cq] at h0 h1; rw [bA] at h1; have h0 : (0 : Int) <= (len.den e).I := h0; have h1 : (len.den e).I <= ((x.den e).T.length : Int) := h1; have hT : ((E.o2 .de x len).den e).T = (x.den e).T.take (len.den e).I.toNat := rfl; have hTl : ((E.o2 .de x len).den e).T.length = (len.den e).I.toNat := by rw [hT, List.length_take]; omega
      refine ⟨by rw [hTl]; omega, fun i hi j k hk => ⟨x, get2 hp hk, ?_⟩⟩
      rw [hTl] at hi; unfold Dv.at; rw [hT, List.getElem?_take_of_lt hi]
 ·cases hc : (cols.isEmpty && jg len) with
  | false => rw [hc] at h; cases h
  | true =>
    rw [hc] at h; simp only [cond_true, Option.some.injEq, Prod.mk.injEq] at h; obtain ⟨rfl, rfl⟩ := h; rw [Bool.and_eq_true] at hc
    have h0 : (len.den e).I = 0 := by
     have := hc.2; unfold jg at this; split at this
     ·rfl
     ·cases this
    exact ⟨by rw [h0]; rfl, fun i hi => absurd hi (Nat.not_lt_zero i)⟩
theorem Ju (hn : cY e e' pr cx) {T sz : Nat} {len len' : E} {cols cols' : List ch} {tail : List (List SV)} {l : List Ob} (h : FC pr len cols tail sz len' cols' = some l) (ht : cL e l) (hle : cols'.length <= sz) :
    aA.aV e e' σ (.row T sz len cols tail) (.row T sz len' cols' []) := by
 unfold FC at h; split at h
 ·rename_i x ks hx hks; cases hc : (jO ks x 0 cols' && len'.same (fZ .ab x) && Nat.beq ks.len sz && Nat.blt 0 sz) with
  | false => rw [hc] at h; cases h
  | true =>
    rw [hc] at h; simp only [cond_true] at h; simp only [Bool.and_eq_true, Nat.beq_eq] at hc; obtain ⟨⟨⟨hp, hlen⟩, hsz⟩, hpos⟩ := hc; unfold Nat.blt at hpos; have hpos : 0 < ks.len := by rw [hsz]; exact Nat.le_of_ble_eq_true hpos
    split at h
    ·rename_i b obs t hb htl; injection h with h; subst h; obtain ⟨t1, t2⟩ := aM.1 ht; obtain ⟨b1, b2⟩ := Kd hb t1; obtain ⟨c1, c2⟩ := yY (e := e) hpos htl
     have hT : (x.den e').T = (b.den e).T ++ (t.den e).T := by
      have h2 : ((bB b t).den e).T = ((x.aR pr).den e).T := t2 _ (List.mem_cons_self ..); rw [E.aO hn, mV] at h2; exact h2.symm
     have hL : (len'.den e').I = (len.den e).I + tail.length := by
      have e1 : (len'.den e').I = ((x.den e').T.length : Int) := by rw [E.ax hlen, bA]; rfl
      rw [e1, hT, List.length_append, c1, b1]; omega
     refine ⟨rfl, rfl, rfl, by rw [b1]; omega, hL, hle, fun j col' hj => ?_⟩
     obtain ⟨k, k1, k2⟩ := sN hp hj; rw [Nat.zero_add] at k2; subst k2; refine ⟨fun i hi => ?_, fun m u hm => ?_⟩
     ·obtain ⟨y, y1, y2⟩ := b2 i (by omega) j k k1
      refine ⟨_, y1, ?_⟩; simp only [ch.at]; refine pT ?_; show (y.den e).at (i : Int).toNat j = (x.den e').at (i : Int).toNat j; rw [Int.toNat_natCast, y2]; unfold Dv.at; rw [hT, List.getElem?_append_left (by omega)]
     ·obtain ⟨x1, y, a1, a2, a3⟩ := c2 m u hm j k k1; refine ⟨x1, a1, ?_⟩; simp only [ch.at]; refine Dj a2 ?_; show y.den e = (x.den e').at ((len.den e).I + (m : Int)).toNat j; rw [a3, b1]; have e2 : (((b.den e).T.length : Int) + (m : Int)).toNat = (b.den e).T.length + m := by omega
      rw [e2]; unfold Dv.at; rw [hT, List.getElem?_append_right (by omega), Nat.add_sub_cancel_left]
    ·cases h
 ·cases h
end
def Hy : List ch -> E
 | .tc _ a _ :: _ => a
 | _ => .il 0
def qQ : aJ -> E -> Nat -> List ch -> Bool
 | .nil, _, _, [] => true
 | .cons k r, a, j, .tc k' b i :: l => k.same k' && b.same a && Nat.beq i j && qQ r a (j + 1) l
 | _, _, _, _ => false
theorem yR : ∀ {ks : aJ} {a : E} {j : Nat} {l : List ch}, qQ ks a j l = true -> l = bX ks a j
 | .nil, _, _, [], _ => rfl
 | .nil, _, _, _ :: _, h => by simp [qQ] at h
 | .cons _ _, _, _, [], h => by simp [qQ] at h
 | .cons k r, a, j, c :: l, h => by
   cases c <;> simp only [qQ, Bool.false_eq_true] at h; simp only [Bool.and_eq_true, Nat.beq_eq] at h; obtain ⟨⟨⟨h1, h2⟩, h3⟩, h4⟩ := h; rw [<- DK.ax h1, E.ax h2, h3, yR h4]; rfl
def Qn (pr : Nat -> E) (cx : Nat -> Bool) (σ : Nat -> Nat) (o o' : aA) : Option (List Ob) :=
 match o, o' with
 | .cells T cs, .cells T' cs' => cond (Nat.beq T T') (entCs pr cx σ cs cs') none
 | .row T sz len cols tail, .row T' sz' len' cols' [] =>
   cond (Nat.beq T T' && Nat.beq sz sz' && Nat.ble cols'.length sz)
    (cond (jg len || mq pr cx cols cols')
     (vW (some (.e (.o2 .le (.il 0) len) :: rM (len'.aR pr) (z8 len (.il (tail.length : Nat))))) (vd pr cols' len 0 tail))
     (FC pr len cols tail sz len' cols')) none
 | .qW sz len cols, .qW sz' len' cols' => cond (Nat.beq sz sz' && oy cols cols' && kX cx cols) (some (rM len (len'.aR pr))) none
 | .map m ix kk sz known, .map m' ix' kk' sz' known' => cond (dT kk kk' && eU known' && known'.all (fun p => lj kk p.1)) (some (rM sz (sz'.aR pr) ++ KZ kk m ix known m' (ix'.aR pr) (oA σ pr known'))) none
 | .chan a, .chan b => some (Nv a (b.aR pr))
 | .ar T ks a, .ar T' ks' b => cond (Nat.beq T T' && ks.same ks') (some (sZ a (b.aR pr))) none
 | .k7 kk ag ks a it, .k7 kk' ag' ks' b it' => cond (dT kk kk' && (cond ag ag' (!ag')) && ks.same ks' && itC σ it it') (some (KC a (b.aR pr))) none
 | .rA T ks a, .rA T' ks' b => cond (Nat.beq T T' && ks.same ks') (some (KC a (b.aR pr))) none
 | .row T sz len cols [], .rA T' ks b => cond (Nat.beq T T' && Nat.beq sz ks.len && Nat.ble 1 sz && qQ ks (Hy cols) 0 cols) (some (rM len (fZ .ab (Hy cols)) ++ KC (Hy cols) (b.aR pr))) none
 | .pf m kk a, .pf m' kk' b => cond (dT kk kk' && Nat.beq m (σ m')) (some (sZ a (b.aR pr))) none
 | .map _ _ kk sz _, .k7 kk' _ _ b it' => cond (dT kk kk' && it'.isNone) (some (rM sz (.il 0) ++ sZ (.il 0) (b.aR pr))) none
 | _, _ => none
section
variable {e e' : Env} {pr : Nat -> E} {cx : Nat -> Bool} {σ : Nat -> Nat}
theorem GA (hn : cY e e' pr cx) {o o' : aA} {l : List Ob} (h : Qn pr cx σ o o' = some l) (ht : cL e l) : jE e e' σ o o' := by
 unfold Qn at h; split at h
 ·rename_i T cs T' cs'; cases hb : Nat.beq T T' with
  | false => rw [hb] at h; cases h
  | true => rw [hb] at h; exact ⟨rfl, Nat.eq_of_beq_eq_true hb, entCs_ok hn h ht⟩
 ·rename_i T sz len cols tail T' sz' len' cols'; cases hb : (Nat.beq T T' && Nat.beq sz sz' && Nat.ble cols'.length sz) with
  | false => rw [hb] at h; cases h
  | true =>
    rw [hb] at h; simp only [cond_true] at h; simp only [Bool.and_eq_true, Nat.beq_eq] at hb; obtain ⟨⟨hT, hsz⟩, hle⟩ := hb; cases hcols : (jg len || mq pr cx cols cols') with
    | false =>
      rw [hcols] at h; exact ⟨rfl, by subst hT; subst hsz; exact Ju hn h ht (Nat.le_of_ble_eq_true hle)⟩
    | true =>
      rw [hcols] at h; simp only [cond_true] at h; obtain ⟨l1, l2, h1, h2, rfl⟩ := fV h; obtain ⟨t1, t2⟩ := aM.1 ht; injection h1 with h1; subst h1
      have h0 : 0 <= (len.den e).I := by
       have this : ((E.o2 .le (.il 0) len).den e).B = true := t1 _ (List.mem_cons_self ..); rw [BO] at this; exact of_decide_eq_true this
      have hl : (len'.den e').I = (len.den e).I + tail.length := by
       have := gC (fun x hx => t1 x (List.mem_cons_of_mem _ hx)); rw [E.aO hn, jA] at this; exact this
      refine ⟨rfl, hT, hsz, rfl, h0, hl, Nat.le_of_ble_eq_true hle, fun j col' hj => ⟨fun i hi => ?_, fun k t hk => ?_⟩⟩
      ·rw [Bool.or_eq_true] at hcols; rcases hcols with hz | hs
       ·have : (len.den e).I = 0 := by
          unfold jg at hz; split at hz
          ·rfl
          ·cases hz
        omega
       ·obtain ⟨bY, h1, h2⟩ := qn hs hj; exact ⟨bY, h1, KN hn h2 i⟩
      ·have := vx hn h2 t2 (σ := σ) j col' hj k t hk; rw [Nat.zero_add] at this; exact this
 ·rename_i sz len cols sz' len' cols'; cases hb : (Nat.beq sz sz' && oy cols cols' && kX cx cols) with
  | false => rw [hb] at h; cases h
  | true =>
    rw [hb] at h; simp only [cond_true, Option.some.injEq] at h; subst h; simp only [Bool.and_eq_true, Nat.beq_eq] at hb; exact ⟨hb.1.1, by rw [gC ht, E.aO hn], tO hb.1.2, fun bY hm i => RP hn hb.2 hm i⟩
 ·rename_i m ix kk sz known m' ix' kk' sz' known'; cases hb : (dT kk kk' && eU known' && known'.all (fun p => lj kk p.1)) with
  | false => rw [hb] at h; cases h
  | true =>
    rw [hb] at h; simp only [cond_true, Option.some.injEq] at h; subst h; simp only [Bool.and_eq_true] at hb; obtain ⟨⟨hb1, hb2⟩, hb3⟩ := hb; obtain ⟨t1, t2⟩ := aM.1 ht; obtain ⟨kv, kv', h1, h1', h2⟩ := NH t2; rw [uX hn hb2] at h1'; refine ⟨rfl, c9 hb1, fun p hp => List.all_eq_true.1 hb3 p hp, by rw [gC t1, E.aO hn], kv, kv', h1, h1', fun k hk => ?_⟩
    rw [h2 k hk, E.aO hn]
    congr 1
    unfold res; split
    ·rfl
    ·rw [hn.mp]
 ·rename_i a b; simp only [Option.some.injEq] at h; subst h; exact ⟨rfl, by show _ = _; rw [Bw ht, E.aO hn]⟩
 ·rename_i T ks a T' ks' b; cases hb : (Nat.beq T T' && ks.same ks') with
  | false => rw [hb] at h; cases h
  | true =>
    rw [hb] at h; simp only [cond_true, Option.some.injEq] at h; subst h; simp only [Bool.and_eq_true, Nat.beq_eq] at hb; exact ⟨hb.1, aJ.ax hb.2, by rw [<- E.aO hn]; exact iu ht⟩
 ·rename_i kk ag ks a it kk' ag' ks' b it'; cases hb : (dT kk kk' && (cond ag ag' (!ag')) && ks.same ks' && itC σ it it') with
  | false => rw [hb] at h; cases h
  | true =>
    rw [hb] at h; simp only [cond_true, Option.some.injEq] at h; subst h; simp only [Bool.and_eq_true] at hb; refine ⟨rfl, c9 hb.1.1.1, ?_, aJ.ax hb.1.2, by rw [<- E.aO hn]; exact AH ht, WZ hb.2⟩
    have := hb.1.1.2; cases ag <;> cases ag' <;> first | rfl | cases this
 ·rename_i T ks a T' ks' b; cases hb : (Nat.beq T T' && ks.same ks') with
  | false => rw [hb] at h; cases h
  | true =>
    rw [hb] at h; simp only [cond_true, Option.some.injEq] at h; subst h; simp only [Bool.and_eq_true, Nat.beq_eq] at hb; exact ⟨rfl, hb.1, aJ.ax hb.2, by rw [<- E.aO hn]; exact AH ht⟩
 ·rename_i T sz len cols T' ks b; cases hb : (Nat.beq T T' && Nat.beq sz ks.len && Nat.ble 1 sz && qQ ks (Hy cols) 0 cols) with
  | false => rw [hb] at h; cases h
  | true =>
    rw [hb] at h; simp only [cond_true, Option.some.injEq] at h; subst h; simp only [Bool.and_eq_true, Nat.beq_eq] at hb; obtain ⟨t1, t2⟩ := aM.1 ht; exact ⟨rfl, hb.1.1.1, hb.1.1.2, Nat.le_of_ble_eq_true hb.1.2, rfl, _, yR hb.2, by rw [gC t1, bA]; rfl, by rw [<- E.aO hn]; exact AH t2⟩
 ·rename_i m kk a m' kk' b; cases hb : (dT kk kk' && Nat.beq m (σ m')) with
  | false => rw [hb] at h; cases h
  | true =>
    rw [hb] at h; simp only [cond_true, Option.some.injEq] at h; subst h; rw [Bool.and_eq_true] at hb; exact ⟨rfl, Nat.eq_of_beq_eq_true hb.2, c9 hb.1, by rw [<- E.aO hn]; exact iu ht⟩
 ·rename_i m ix kk sz known kk' ag ks b it'; cases hb : (dT kk kk' && it'.isNone) with
  | false => rw [hb] at h; cases h
  | true =>
    rw [hb] at h; simp only [cond_true, Option.some.injEq] at h; subst h; obtain ⟨t1, t2⟩ := aM.1 ht; rw [Bool.and_eq_true] at hb; exact ⟨rfl, c9 hb.1, by rw [gC t1]; rfl, by rw [<- E.aO hn, <- iu t2]; rfl, by simpa using hb.2⟩
 ·cases h
end
def SB : List ch -> Option aJ
 | [] => some .nil
 | .tc k _ _ :: r => match SB r with | some ks => some (.cons k ks) | none => none
 | _ => none
def kD (sz : Nat) (len : E) (ks : aJ) (e : E) : aA := cond (Nat.blt 0 sz) (.qW sz len (bX ks e 0)) .gone
def qL (kd : TypeId -> Option aJ) : aA -> Option (aJ × Nat × E × E × List Ob)
 | .row T sz len cols tail =>
   match kd T with
   | some ks => cond (Nat.beq ks.len sz && Nat.blt 0 sz)
     (match vF ks len cols, om ks tail with
     | some (e, obs), some t => some (ks, sz, bB e t, iQ len tail, obs)
     | _, _ => none) none
   | none => none
 | .cells T cs =>
   match kd T with
   | some ks =>
     match AM ks cs with
     | some e => some (ks, 0, e, .il 1, [])
     | none => none
   | none => none
 | .qW sz len cols =>
   match SB cols with
   | some ks => cond (Nat.beq ks.len sz && Nat.blt 0 sz && Dg cols)
     (match vF ks len cols with
     | some (e, obs) => some (ks, sz, e, len, obs)
     | none => none) none
   | none => none
 | _ => none
section
variable {P : Program} {env : Env} {w0 : Anchor} {ρ ρ' : af} {h : aL} {w : World}
def qz (env : Env) (ρ ρ' : af) (n sz : Nat) (len : E) (ks : aJ) (e : E) : Prop :=
 (0 < sz -> ∀ v, (SV.sl n sz (.il 0) len).Rel env ρ v -> (SV.cg ks e).Rel env ρ' v) /\ (sz = 0 -> ∀ j v, (SV.ptr n (.c j)).Rel env ρ v -> (SV.dC ks e (.il 0) j).Rel env ρ' v)
theorem NF {sz : Nat} {ks : aJ} {e len : E} {n : Nat} {p : Pl} (hpos : 0 < ks.len) (hp : ρ n = some p) (hL : (len.den env).I = ((e.den env).T.length : Int)) (hcap : (e.den env).T.length <= p.cap) (hpb : p.base = 0) (hpn : p.nil = false) (hsz : ks.len = sz)
    (hcore : ∀ i, i < (e.den env).T.length -> ks.Rel ρ.fz (fun j => (e.den env).at i j) (fun j => cu ρ.fz p.block (i * ks.len + j)) 0) : (kD sz len ks e).Rel env w0 ρ n w := by
 subst hsz; have hb : Nat.blt 0 ks.len = true := Nat.ble_eq_true_of_le hpos; unfold kD; rw [hb]; show (aA.qW ks.len len (bX ks e 0)).Rel env w0 ρ n w; refine ⟨p, hp, by rw [hL]; omega, (fun h => by rw [hpn] at h; cases h), .inr ⟨?_, hpb, hpn, fun i hi j bY hc => ?_⟩⟩
 ·cases ks with
  | nil => exact absurd hpos (Nat.lt_irrefl 0)
  | cons k r => rfl
 ·rw [hL, Int.toNat_natCast] at hi; obtain ⟨k, h1, rfl⟩ := nF hc; obtain ⟨v, h2, h3⟩ := (hcore i hi).get h1; rw [Nat.zero_add] at h2 h3 ⊢; refine ⟨v, h2, ?_⟩; rw [ch.at, cM]; exact h3
theorem yZ {ks : aJ} {e len : E} {n sz : Nat} {p : Pl} (hpos : 0 < ks.len) (hp : ρ n = some p) (hL : (len.den env).I = ((e.den env).T.length : Int)) (hpb : p.base = 0) (hsz : ks.len = sz)
    (hcore : ∀ i, i < (e.den env).T.length -> ks.Rel ρ'.fz (fun j => (e.den env).at i j) (fun j => cu ρ'.fz p.block (i * ks.len + j)) 0) : qz env ρ ρ' n sz len ks e := by
 subst hsz; refine ⟨fun _ v hv => ?_, fun h0 => by omega⟩
 simp only [SV.Rel] at hv; obtain ⟨q, A, hq, rfl, hA1, hA2, hle2, _⟩ := hv; rw [hp] at hq; injection hq with hq; subst hq; rw [hL] at hle2 ⊢; have hz0 : ((E.il 0).den env).I.toNat = 0 := rfl; rw [hz0] at hle2 hA2 ⊢; have htn : ((e.den env).T.length : Int).toNat = (e.den env).T.length := Int.toNat_natCast _; rw [htn] at hle2 ⊢; simp only [SV.Rel, DK.Rel]; refine ⟨A, p.cap - 0, rfl, by omega, fun h0 => ?_⟩
 have hA := hA2 (by omega)
 rw [hpb, Nat.zero_mul, Nat.zero_add] at hA; exact ⟨p.block, 0, hA, fun i hi => by simpa only [Nat.zero_add] using hcore i hi⟩
theorem az.qL {kd : TypeId -> Option aJ} (H : az env w0 ρ h w) {n sz : Nat} {o : aA} {ks : aJ} {e len : E} {obs : List Ob} (hn : ay h n = some o) (hf : Go.Sx.qL kd o = some (ks, sz, e, len, obs)) (ht : cL env obs) :
    ∃ ρ', ρ.le ρ' /\ ρ'.pl = ρ.pl /\ az env w0 ρ' (bf h n .gone) w /\ qz env ρ ρ' n sz len ks e /\ (kD sz len ks e).Rel env w0 ρ' n w := by
 cases o with
 | row T sz' l cols tail =>
   simp only [Go.Sx.qL] at hf; split at hf
   ·rename_i ks' hks; cases hc : (Nat.beq ks'.len sz' && Nat.blt 0 sz') with
    | false => rw [hc] at hf; cases hf
    | true =>
      rw [hc] at hf; simp only [cond_true] at hf; split at hf
      ·rename_i e1 obs1 t h1 h2; simp only [Option.some.injEq, Prod.mk.injEq] at hf; obtain ⟨rfl, rfl, rfl, rfl, rfl⟩ := hf; simp only [Bool.and_eq_true, Nat.beq_eq] at hc; obtain ⟨hsz, hpos⟩ := hc; unfold Nat.blt at hpos; have hpos : 0 < sz' := Nat.le_of_ble_eq_true hpos; obtain ⟨p, vs, rest, hp, Oz, hpb, hpn, hrow, hlen, hw⟩ := H.bk n _ hn; obtain ⟨base, tl, rfl, hb1, hb2, htl, hts, hcl⟩ := hrow; rw [<- hsz] at hb1 hb2 hts hlen hpos; obtain ⟨g1, g2⟩ := D7 (base := fun j => base[j]?) h1 ht hpos hb2; obtain ⟨k1, k2⟩ := wS hpos h2 htl hts; obtain ⟨hle, HS⟩ := H.freeze hn rfl hp hw; have hT : ((bB e1 t).den env).T = (e1.den env).T ++ (t.den env).T := mV _ _; have hTl : ((bB e1 t).den env).T.length = (e1.den env).T.length + tail.length := by rw [hT, List.length_append, k1]
       have hL : ((iQ l tail).den env).I = (((bB e1 t).den env).T.length : Int) := by
        unfold iQ; rw [jA, g1, hTl]; show _ + ((tail.length : Nat) : Int) = _; omega
       have hcore : ∀ i, i < ((bB e1 t).den env).T.length -> ks'.Rel (ρ.qC p.block (.cells (base ++ tl ++ rest).toArray T (0, 0))).fz (fun j => ((bB e1 t).den env).at i j) (fun j => cu (ρ.qC p.block (.cells (base ++ tl ++ rest).toArray T (0, 0))).fz p.block (0 + i * ks'.len + j)) 0 := by
        intro i hi
        have hcellV : ∀ j v, (base ++ tl)[j]? = some v -> cu (ρ.qC p.block (.cells (base ++ tl ++ rest).toArray T (0, 0))).fz p.block j = some v := by
         intro j v hj; show (match (if p.block = p.block then some (Obj.cells (base ++ tl ++ rest).toArray T (0, 0)) else ρ.fz p.block) with | some (.cells c _ _) => c[j]? | _ => none) = some v
         rw [if_pos rfl]; show (base ++ tl ++ rest).toArray[j]? = some v; rw [List.getElem?_toArray, List.getElem?_append_left (List.getElem?_eq_some_iff.1 hj).1]; exact hj
        by_cases hib : i < (e1.den env).T.length
        ·have e4 : (fun j => ((bB e1 t).den env).at i j) = fun j => (e1.den env).at i j := by
           funext j
           unfold Dv.at; rw [hT, List.getElem?_append_left hib]
         rw [e4]; refine aJ.Rel.mono hle.fz (fun j v hj => ?_) (g2 i hib); refine hcellV _ v ?_; rw [Nat.zero_add, List.getElem?_append_left (List.getElem?_eq_some_iff.1 hj).1]; exact hj
        ·obtain ⟨m, rfl⟩ : ∃ m, i = (e1.den env).T.length + m := ⟨i - (e1.den env).T.length, by omega⟩
         have e4 : (fun j => ((bB e1 t).den env).at ((e1.den env).T.length + m) j) = fun j => (t.den env).at m j := by
          funext j
          unfold Dv.at; rw [hT, List.getElem?_append_right (by omega), Nat.add_sub_cancel_left]
         rw [e4]; refine aJ.Rel.mono hle.fz (fun j v hj => ?_) (k2 m (by omega))
         refine hcellV _ v ?_; have hbl : base.length = (e1.den env).T.length * ks'.len := by rw [hb1, g1, Int.toNat_natCast]
         rw [Nat.zero_add, Nat.add_mul, List.getElem?_append_right (by rw [hbl]; omega), hbl]
         rw [show (e1.den env).T.length * ks'.len + m * ks'.len + j - (e1.den env).T.length * ks'.len = m * ks'.len + j by omega]
         exact hj
       have hcap : ((bB e1 t).den env).T.length <= p.cap := by
        have e9 : tl.length = tail.length * ks'.len := by rw [htl.length, dw hts]
        rw [List.length_append, List.length_append, hb1, e9, g1, Int.toNat_natCast, <- Nat.add_mul] at hlen; rw [hTl]; exact Nat.le_of_mul_le_mul_right (by omega) hpos
       have hcore' : ∀ i, i < ((bB e1 t).den env).T.length -> ks'.Rel (ρ.qC p.block (.cells (base ++ tl ++ rest).toArray T (0, 0))).fz (fun j => ((bB e1 t).den env).at i j) (fun j => cu (ρ.qC p.block (.cells (base ++ tl ++ rest).toArray T (0, 0))).fz p.block (i * ks'.len + j)) 0 := fun i hi => by
        have := hcore i hi; simpa only [Nat.zero_add] using this
       exact ⟨_, hle, rfl, HS, yZ hpos hp hL hpb hsz hcore', NF hpos hp hL hcap hpb hpn hsz hcore'⟩
      ·cases hf
   ·cases hf
 | cells T cs =>
   simp only [Go.Sx.qL] at hf; split at hf
   ·rename_i ks' hks; split at hf
    ·rename_i e1 h1; simp only [Option.some.injEq, Prod.mk.injEq] at hf; obtain ⟨rfl, rfl, rfl, rfl, rfl⟩ := hf; obtain ⟨p, vs, hp, Oz, hpb, hpn, hcs, hw⟩ := H.bk n _ hn; obtain ⟨hle, HS⟩ := H.freeze hn rfl hp hw; obtain ⟨r, hr1, _, hr3⟩ := BI h1 hcs; refine ⟨_, hle, rfl, HS, ⟨fun h0 => absurd h0 (Nat.lt_irrefl 0), fun _ j v hv => ?_⟩, trivial⟩; simp only [SV.Rel] at hv ⊢; obtain ⟨q, hq, rfl⟩ := hv; rw [hp] at hq; injection hq with hq; subst hq; refine ⟨p.block, p.base, rfl, ?_⟩
     have g := hr3 (fun j => (e1.den env).at 0 j) (fun j => vs[j]?) 0 (fun m => by
      rw [Nat.zero_add]; show (((e1.den env).T[0]?).getD [])[m]?.getD (.i 0) = _
      rw [<- List.head?_eq_getElem?, hr1]) (fun m _ => by rw [Nat.zero_add])
     refine aJ.Rel.mono hle.fz (fun j v hj => ?_) g; rw [hpb, Nat.zero_add]; show (match (if p.block = p.block then some (Obj.cells vs.toArray T (0, 0)) else ρ.fz p.block) with | some (.cells c _ _) => c[j]? | _ => none) = some v
     rw [if_pos rfl]; show vs.toArray[j]? = some v; rw [List.getElem?_toArray]; exact hj
    ·cases hf
   ·cases hf
 | qW sz' l cols =>
   simp only [Go.Sx.qL] at hf; split at hf
   ·rename_i ks' hks; cases hc : (Nat.beq ks'.len sz' && Nat.blt 0 sz' && Dg cols) with
    | false => rw [hc] at hf; cases hf
    | true =>
      rw [hc] at hf; simp only [cond_true] at hf; split at hf
      ·rename_i e1 obs1 h1; simp only [Option.some.injEq, Prod.mk.injEq] at hf; obtain ⟨rfl, rfl, rfl, rfl, rfl⟩ := hf; simp only [Bool.and_eq_true, Nat.beq_eq] at hc; obtain ⟨⟨hsz, hpos⟩, hT⟩ := hc; unfold Nat.blt at hpos; have hpos : 0 < sz' := Nat.le_of_ble_eq_true hpos; obtain ⟨p, hp, hcap, _, h4⟩ := H.bk n _ hn; rcases h4 with ⟨h5, _⟩ | ⟨_, hpb, hpn, h5⟩
       ·rw [hT] at h5; cases h5
       ·rw [<- hsz] at h5 hpos; obtain ⟨g1, g2⟩ := D7 (base := fun j => cu ρ.fz p.block j) h1 ht hpos h5; rw [g1, Int.toNat_natCast] at hcap; exact ⟨ρ, af.le_refl ρ, rfl, H.Au hn, yZ hpos hp g1 hpb hsz g2, NF hpos hp g1 hcap hpb hpn hsz g2⟩
      ·cases hf
   ·cases hf
 | _ => cases hf
end
structure OC where
 n : Nat
 sz : Nat
 len : E
 ks : aJ
 e : E
mutual
def SV.qC (F : OC) : SV -> SV
 | .sl m s lo l => cond (Nat.beq m F.n && Nat.beq s F.sz && lo.same (.il 0) && l.same F.len && Nat.blt 0 F.sz) (.cg F.ks F.e) (.sl m s lo l)
 | .ptr m (.c j) => cond (Nat.beq m F.n && Nat.beq F.sz 0) (.dC F.ks F.e (.il 0) j) (.ptr m (.c j))
 | .agg l => .agg (SV.frzs F l)
 | .fq l => .fq (SV.frzs F l)
 | .eh t x => .eh t (SV.qC F x)
 | x => x
def SV.frzs (F : OC) : List SV -> List SV
 | [] => []
 | x :: l => SV.qC F x :: SV.frzs F l
end
theorem SV.jt {F : OC} : ∀ {l : List SV}, (SV.frzs F l).length = l.length
 | [] => rfl
 | x :: l => by simp [SV.frzs, SV.jt (l := l)]
theorem SV.tY {F : OC} : ∀ {l m : List SV}, SV.frzs F (l ++ m) = SV.frzs F l ++ SV.frzs F m
 | [], _ => rfl
 | x :: l, m => by simp [SV.frzs, SV.tY (l := l)]
theorem SV.sk {F : OC} : ∀ {l : List (List SV)}, SV.frzs F l.flatten = (l.map (SV.frzs F)).flatten
 | [] => rfl
 | x :: l => by simp [SV.tY, SV.sk (l := l)]
section
variable {env : Env} {ρ ρ' : af} {F : OC}
mutual
theorem SV.xG (hle : ρ.le ρ') (hv : qz env ρ ρ' F.n F.sz F.len F.ks F.e) : ∀ {x : SV} {v : Value}, x.Rel env ρ v -> (x.qC F).Rel env ρ' v := by
 intro x v hx; cases x with
 | sl m s lo l =>
   unfold SV.qC; cases hc : (Nat.beq m F.n && Nat.beq s F.sz && lo.same (.il 0) && l.same F.len && Nat.blt 0 F.sz) with
   | false => exact hx.mono hle
   | true =>
     simp only [Bool.and_eq_true] at hc; obtain ⟨⟨⟨⟨h1, h2⟩, h3⟩, h4⟩, h5⟩ := hc; rw [Nat.eq_of_beq_eq_true h1, Nat.eq_of_beq_eq_true h2, E.ax h3, E.ax h4] at hx; exact hv.1 (Nat.le_of_ble_eq_true h5) v hx
 | ptr m o =>
   cases o with
   | el i sz j => exact hx.mono hle
   | c j =>
     unfold SV.qC; cases hc : (Nat.beq m F.n && Nat.beq F.sz 0) with
     | false => exact hx.mono hle
     | true =>
       rw [Bool.and_eq_true] at hc; rw [Nat.eq_of_beq_eq_true hc.1] at hx; exact hv.2 (Nat.eq_of_beq_eq_true hc.2) j v hx
 | agg l =>
   simp only [SV.qC, SV.Rel] at hx ⊢; obtain ⟨y, rfl, h⟩ := hx; exact ⟨y, rfl, SV.frzs_ok hle hv h⟩
 | fq l =>
   simp only [SV.qC, SV.Rel] at hx ⊢; obtain ⟨y, rfl, h⟩ := hx; exact ⟨y, rfl, SV.frzs_ok hle hv h⟩
 | eh t x =>
   simp only [SV.qC, SV.Rel] at hx ⊢; obtain ⟨y, rfl, h⟩ := hx; exact ⟨y, rfl, SV.xG hle hv h⟩
 | _ => exact hx.mono hle
theorem SV.frzs_ok (hle : ρ.le ρ') (hv : qz env ρ ρ' F.n F.sz F.len F.ks F.e) : ∀ {l : List SV} {vs : List Value}, SV.aD env ρ l vs -> SV.aD env ρ' (SV.frzs F l) vs := by
 intro l vs h; cases l with
 | nil => exact h
 | cons x l =>
   simp only [SV.frzs, SV.aD] at h ⊢; obtain ⟨v, q, rfl, h1, h2⟩ := h; exact ⟨v, q, rfl, SV.xG hle hv h1, SV.frzs_ok hle hv h2⟩
end
def aA.qC (F : OC) : aA -> aA
 | .cells T cs => .cells T (SV.frzs F cs)
 | .row T sz len cols tail => .row T sz len cols (tail.map (SV.frzs F))
 | o => o
theorem aA.zz {o : aA} : (o.qC F).owner = o.owner := by cases o <;> rfl
theorem aA.xG {w0 : Anchor} {w : World} {m : Nat} {o : aA} (hle : ρ.le ρ') (hpl : ρ'.pl = ρ.pl) (hv : qz env ρ ρ' F.n F.sz F.len F.ks F.e) (h : o.Rel env w0 ρ m w) : (o.qC F).Rel env w0 ρ' m w := by
 cases o with
 | cells T cs =>
   obtain ⟨p, vs, h1, h2, h3, h4, h5, h6⟩ := h; exact ⟨p, vs, hle _ _ h1, h2, h3, h4, SV.frzs_ok hle hv h5, h6⟩
 | row T sz len cols tail =>
   obtain ⟨p, vs, rest, h1, h2, h3, h4, ⟨b, t, k1, k2, k3, k4, k5, k6⟩, h6, h7⟩ := h; refine ⟨p, vs, rest, hle _ _ h1, h2, h3, h4, ⟨b, t, k1, k2, fun i hi j bY hj => ?_, ?_, fun u hu => ?_, k6⟩, h6, h7⟩
   ·obtain ⟨v, g1, g2⟩ := k3 i hi j bY hj; exact ⟨v, g1, g2.mono hle⟩
   ·rw [<- SV.sk]; exact SV.frzs_ok hle hv k4
   ·obtain ⟨y, hy, rfl⟩ := List.mem_map.1 hu; rw [SV.jt]; exact k5 y hy
 | _ => exact h.cU hle (fun _ _ _ => rfl) (fun h0 _ => by rw [show ρ' m = ρ m from congrFun hpl m]; exact h0)
def mZ (F : OC) (h : aQ) : aQ := h.map fun x => (x.1, cond (Nat.beq x.1 F.n) .gone (x.2.qC F))
theorem Ln {h : aQ} {m : Nat} {o : aA} (hm : bZ (mZ F h) m = some o) : (m = F.n /\ o = .gone) \/ (m ≠ F.n /\ ∃ o0, bZ h m = some o0 /\ o = o0.qC F) := by
 induction h with
 | nil => cases hm
 | cons x r ih =>
   obtain ⟨k, y⟩ := x; simp only [mZ, List.map_cons, bZ] at hm ⊢; cases hb : Nat.beq k m with
   | false => rw [hb] at hm; exact ih hm
   | true =>
     rw [hb] at hm; obtain rfl := Nat.eq_of_beq_eq_true hb; simp only [cond_true, Option.some.injEq] at hm; cases hk : Nat.beq k F.n with
     | true => rw [hk] at hm; exact .inl ⟨Nat.eq_of_beq_eq_true hk, hm.symm⟩
     | false =>
       rw [hk] at hm; exact .inr ⟨fun e => by (rw [e, Nat.beq_refl] at hk; cases hk), y, by simp, hm.symm⟩
theorem DS {F : OC} {h : aQ} {m : Nat} {o : aA} (hm : bZ h m = some o) (hne : m ≠ F.n) : bZ (mZ F h) m = some (o.qC F) := by
 induction h with
 | nil => cases hm
 | cons x r ih =>
   obtain ⟨k, y⟩ := x; simp only [mZ, List.map_cons, bZ] at hm ⊢; cases hb : Nat.beq k m with
   | false => rw [hb] at hm; exact ih hm
   | true =>
     rw [hb] at hm; obtain rfl := Nat.eq_of_beq_eq_true hb; simp only [cond_true, Option.some.injEq] at hm ⊢; have : Nat.beq k F.n = false := by rw [Bool.eq_false_iff]; intro h; exact hne (Nat.eq_of_beq_eq_true h)
     rw [this, hm]; rfl
def bR.Vf (kd : TypeId -> Option aJ) (n : Nat) (q : bR) : Option (bR × List Ob) :=
 match bZ q.h n with
 | some o =>
   match qL kd o with
   | some (ks, sz, e, len, obs) => some ({ q with fr := ⟨SV.frzs ⟨n, sz, len, ks, e⟩ q.fr.sl, q.fr.df⟩, h := mZ ⟨n, sz, len, ks, e⟩ q.h }, obs)
   | none => none
 | none => none
theorem bR.OK {kd : TypeId -> Option aJ} {n : Nat} {q q' : bR} {obs : List Ob} (h : q.Vf kd n = some (q', obs)) (ht : cL env obs) : tH env q q' := by
 unfold bR.Vf at h; split at h
 ·rename_i o ho; split at h
  ·rename_i ks sz e len obs' hf; have hone : True := trivial; cases hone with
   | intro =>
     simp only [Option.some.injEq, Prod.mk.injEq] at h; obtain ⟨rfl, rfl⟩ := h; refine ⟨rfl, SV.jt, fun A ρ a w hs => ?_⟩; obtain ⟨ρ', hle, hpl, HS, hv, _⟩ := hs.hs.qL (n := n) ho hf ht; refine ⟨ρ', hle, ⟨?_, SV.frzs_ok hle hv hs.sl, hs.df.mono hle, fun m p hp => hs.nx m p (by rw [<- show ρ' m = ρ m from congrFun hpl m]; exact hp)⟩⟩
     have back : ∀ m o', ay (bg (mZ ⟨n, sz, len, ks, e⟩ q.h)) m = some o' -> (m = n /\ o' = .gone) \/ (m ≠ n /\ ∃ o0, ay (bg q.h) m = some o0 /\ o' = o0.qC ⟨n, sz, len, ks, e⟩) := fun m o' hm => Ln hm
     have back2 : ∀ m o', ay (bg (mZ ⟨n, sz, len, ks, e⟩ q.h)) m = some o' -> o'.owner = true -> ∃ o0, ay (bf (bg q.h) n .gone) m = some o0 /\ o0.owner = true := fun m o' hm ho' => by
      rcases back m o' hm with ⟨_, rfl⟩ | ⟨hne, o0, h0, rfl⟩
      ·cases ho'
      ·refine ⟨o0, by rw [ai, if_neg hne]; exact h0, by rw [aA.zz] at ho'; exact ho'⟩
     refine ⟨HS.below, fun m o' hm => ?_, fun m k x y p p' hm hk hx hy hp hp' he => ?_, ?_, HS.fz.at_, fun b x m o' p hb hm ho' hp => ?_, HS.fz.iM⟩
     ·rcases back m o' hm with ⟨_, rfl⟩ | ⟨hne, o0, h0, rfl⟩
      ·trivial
      ·exact aA.xG hle hpl hv (hs.hs.bk m o0 h0)
     ·obtain ⟨x0, a1, a2⟩ := back2 m x hm hx; obtain ⟨y0, b1, b2⟩ := back2 k y hk hy; exact HS.inj m k x0 y0 p p' a1 b1 a2 b2 hp hp' he
     ·refine HS.ar.cU (Fz.le_refl _) rfl (fun m T ks' e' hm => ?_) (fun T ks' e' hm => ⟨ks', e', ?_⟩) (fun _ _ _ _ _ _ _ _ => rfl) (Nat.le_refl _) (fun _ h => h) rfl (fun m o' q' hm ho' hq => .inl ?_) (fun _ _ _ _ _ _ _ _ h => h)
      ·rcases back m _ hm with ⟨_, h0⟩ | ⟨hne, o0, h0, e1⟩
       ·cases h0
       ·rw [ai, if_neg hne, h0]; cases o0 <;> first | (rw [e1]; rfl) | (cases e1; done)
      ·rw [ai] at hm
       by_cases e1 : dI T = n
       ·rw [if_pos e1] at hm; cases hm
       ·rw [if_neg e1] at hm; exact DS (F := ⟨n, sz, len, ks, e⟩) hm e1
      ·obtain ⟨y0, b1, b2⟩ := back2 m o' hm ho'; exact ⟨m, y0, q', b1, b2, hq, rfl⟩
     ·obtain ⟨y0, b1, b2⟩ := back2 m o' hm ho'; exact HS.fz.free b x m y0 p hb b1 b2 hp
  ·cases h
 ·cases h
def MK : DK -> SV -> List Nat
 | .sl _, .sl n _ _ _ => [n]
 | .fp _, .ptr n (.c 0) => [n]
 | .eh _ k, .eh _ x => MK k x
 | _, _ => []
def F6 : aJ -> List SV -> List Nat
 | .cons k r, x :: l => MK k x ++ F6 r l
 | _, _ => []
def WD (kd : TypeId -> Option aJ) : aA -> List Nat
 | .row T _ _ _ tail => match kd T with | some ks => (tail.map (F6 ks)).flatten | none => []
 | .cells T cs => match kd T with | some ks => F6 ks cs | none => []
 | _ => []
def lf (g : Nat -> bR -> Option (bR × List Ob)) : List Nat -> bR -> Option (bR × List Ob)
 | [], q => some (q, [])
 | n :: r, q =>
   match g n q with
   | some (q1, o1) =>
     match lf g r q1 with
     | some (q2, o2) => some (q2, o1 ++ o2)
     | none => none
   | none => none
theorem nt {g : Nat -> bR -> Option (bR × List Ob)} (hg : ∀ n q q' obs, g n q = some (q', obs) -> cL env obs -> tH env q q') : ∀ {l : List Nat} {q q' : bR} {obs : List Ob}, lf g l q = some (q', obs) -> cL env obs -> tH env q q'
 | [], q, q', obs, h, _ => by simp only [lf, Option.some.injEq, Prod.mk.injEq] at h; obtain ⟨rfl, _⟩ := h; exact tH.refl q
 | n :: r, q, q', obs, h, ht => by
   simp only [lf] at h; split at h
   ·rename_i q1 o1 h1; split at h
    ·rename_i q2 o2 h2; simp only [Option.some.injEq, Prod.mk.injEq] at h; obtain ⟨rfl, rfl⟩ := h; obtain ⟨t1, t2⟩ := aM.1 ht; exact (hg n q q1 o1 h1 t1).trans (nt hg h2 t2)
    ·cases h
   ·cases h
def bR.JW (kd : TypeId -> Option aJ) : Nat -> Nat -> bR -> Option (bR × List Ob)
 | 0, _, _ => none
 | d + 1, n, q =>
   match bZ q.h n with
   | some o =>
     match lf (bR.JW kd d) (WD kd o) q with
     | some (q1, o1) =>
       match q1.Vf kd n with
       | some (q2, o2) => some (q2, o1 ++ o2)
       | none => none
     | none => none
   | none => none
theorem bR.Bi {kd : TypeId -> Option aJ} : ∀ {d n : Nat} {q q' : bR} {obs : List Ob}, q.JW kd d n = some (q', obs) -> cL env obs -> tH env q q'
 | 0, _, _, _, _, h, _ => by cases h
 | d + 1, n, q, q', obs, h, ht => by
   simp only [bR.JW] at h; split at h
   ·split at h
    ·rename_i q1 o1 h1; split at h
     ·rename_i q2 o2 h2; simp only [Option.some.injEq, Prod.mk.injEq] at h; obtain ⟨rfl, rfl⟩ := h; obtain ⟨t1, t2⟩ := aM.1 ht; exact (nt (fun n q q' obs => bR.Bi) h1 t1).trans (bR.OK h2 t2)
     ·cases h
    ·cases h
   ·cases h
end
mutual
def wantV : SV -> SV -> List Nat
 | .sl n _ _ _, .cg _ _ => [n]
 | .ptr n (.c _), .dC _ _ _ _ => [n]
 | .agg l, .agg m => wantL l m
 | .fq l, .fq m => wantL l m
 | .eh _ x, .eh _ y => wantV x y
 | _, _ => []
def wantL : List SV -> List SV -> List Nat
 | x :: l, y :: m => wantV x y ++ wantL l m
 | _, _ => []
end
def HV : List SV -> List ch -> List Nat
 | .sl n _ _ _ :: l, .cg _ _ :: m => n :: HV l m
 | x :: l, .tc k _ _ :: m => MK k x ++ HV l m
 | _ :: l, _ :: m => HV l m
 | _, _ => []
def T6 (cols : List ch) : List (List SV) -> List Nat
 | [] => []
 | t :: r => HV t cols ++ T6 cols r
def S4 : aA -> aA -> List Nat
 | .cells _ l, .cells _ m => wantL l m
 | .row _ _ _ _ tail, .row _ _ _ cols _ => T6 cols tail
 | _, _ => []
def Ff (sl : List SV) : List (Nat × SV) -> List Nat
 | [] => []
 | (j, y) :: r => (match nth sl j with | some x => wantV x y | none => []) ++ Ff sl r
def NL (σ : Nat -> Nat) (hL : aQ) : aQ -> List Nat
 | [] => []
 | (n, o') :: r => (match bZ hL (σ n) with | some o => S4 o o' | none => []) ++ NL σ hL r
def od : List Nat -> List Nat
 | [] => []
 | n :: r => cond (qm n r) (od r) (n :: od r)
def bR.lz (kd : TypeId -> Option aJ) (q : bR) (ov : List (Nat × SV)) (hp : aQ) (l : List (Nat × Nat)) : Option (bR × List Ob) :=
 lf (fun n q => q.JW kd 6 n) (od (Ff q.fr.sl ov ++ NL (sig l q.nx) q.h hp)) q
theorem bR.nu {kd : TypeId -> Option aJ} {env : Env} {q q' : bR} {ov : List (Nat × SV)} {hp : aQ} {l : List (Nat × Nat)} {obs : List Ob} (h : q.lz kd ov hp l = some (q', obs)) (ht : cL env obs) : tH env q q' :=
 nt (fun n q q' obs => bR.Bi) h ht
section
variable (pr : Nat -> E) (cx : Nat -> Bool) (σ : Nat -> Nat)
def xi (sl : List SV) : List (Nat × SV) -> Option (List Ob)
 | [] => some []
 | (j, y) :: r => match nth sl j with | some x => vW (entC pr cx σ x y) (xi sl r) | none => none
def Am (hL : aQ) : aQ -> Option (List Ob)
 | [] => some []
 | (n, o') :: r => match bZ hL (mb σ o' n) with | some o => vW (Qn pr cx σ o o') (Am hL r) | none => none
end
section
variable {e e' : Env} {pr : Nat -> E} {cx : Nat -> Bool} {σ : Nat -> Nat}
theorem tE (hn : cY e e' pr cx) {sl : List SV} : ∀ {ov : List (Nat × SV)} {l : List Ob}, xi pr cx σ sl ov = some l -> cL e l -> nK e e' σ sl ov
 | [], _, _, _ => trivial
 | (j, y) :: r, l, h, ht => by
   simp only [xi] at h; unfold nK; cases hx : nth sl j with
   | none => rw [hx] at h; cases h
   | some x =>
     rw [hx] at h; obtain ⟨l1, l2, h1, h2, rfl⟩ := fV h; obtain ⟨t1, t2⟩ := aM.1 ht; exact ⟨entC_ok hn h1 t1, tE hn h2 t2⟩
theorem zx (hn : cY e e' pr cx) {hL : aQ} : ∀ {hp : aQ} {l : List Ob}, Am pr cx σ hL hp = some l -> cL e l -> vT e e' σ hL hp
 | [], _, _, _ => trivial
 | (j, y) :: r, l, h, ht => by
   simp only [Am] at h; unfold vT; cases hx : bZ hL (mb σ y j) with
   | none => rw [hx] at h; cases h
   | some x =>
     rw [hx] at h; obtain ⟨l1, l2, h1, h2, rfl⟩ := fV h; obtain ⟨t1, t2⟩ := aM.1 ht; exact ⟨GA hn h1 t1, zx hn h2 t2⟩
end
def stays (vB : Nat) (ex : List Nat) : Nat -> Nat -> List (Nat × SV)
 | _, 0 => []
 | j, n + 1 => cond (qm j ex) (stays vB ex (j + 1) n) ((j, .val (vB + j) (.il 0)) :: stays vB ex (j + 1) n)
def rG (js : List Nat) : List (Nat × SV) := js.map fun j => (j, .top)
def jF (vB N : Nat) (js : List Nat) (ov : List (Nat × SV)) : List (Nat × SV) := ov ++ (rG js ++ stays vB (js ++ ov.map (·.1)) 0 N)
theorem dm : ∀ {a b : List (Nat × SV)} {j : Nat}, b9 (a ++ b) j = match b9 a j with | some x => some x | none => b9 b j
 | [], b, j => rfl
 | (i, x) :: r, b, j => by
   simp only [List.cons_append, b9]; cases hb : Nat.beq i j with
   | true => rfl
   | false => simp only [cond_false]; exact dm
theorem xW : ∀ {js : List Nat} {j : Nat} {x : SV}, b9 (rG js) j = some x -> x = .top
 | [], j, x, h => by cases h
 | i :: r, j, x, h => by
   simp only [rG, List.map_cons, b9] at h; cases hb : Nat.beq i j with
   | true => rw [hb] at h; simp only [cond_true, Option.some.injEq] at h; exact h.symm
   | false => rw [hb] at h; exact xW (js := r) h
theorem lH {vB : Nat} {ex : List Nat} : ∀ {n j i : Nat} {x : SV}, b9 (stays vB ex i n) j = some x -> x = .val (vB + j) (.il 0)
 | 0, j, i, x, h => by cases h
 | n + 1, j, i, x, h => by
   simp only [stays] at h; cases hx : qm i ex with
   | true => rw [hx] at h; exact lH (n := n) h
   | false =>
     rw [hx] at h; simp only [cond_false, b9] at h; cases hb : Nat.beq i j with
     | true => rw [hb] at h; obtain rfl := Nat.eq_of_beq_eq_true hb; simp only [cond_true, Option.some.injEq] at h; exact h.symm
     | false => rw [hb] at h; exact lH (n := n) h
theorem sY : ∀ {l : List (Nat × SV)} {j : Nat}, j ∈ l.map (·.1) -> ∃ x, b9 l j = some x
 | [], j, h => by simp at h
 | (i, x) :: r, j, h => by
   simp only [List.map_cons, List.mem_cons] at h; unfold b9; cases hb : Nat.beq i j with
   | true => exact ⟨x, rfl⟩
   | false =>
     rcases h with h | h
     ·subst h; simp at hb
     ·exact sY h
theorem I8 {vB : Nat} {env : Env} {ρ : af} {ov : List (Nat × SV)} {u0 u : Nat -> Value} {N : Nat} {js : List Nat} {vs : List Value} (h : SV.aD env ρ (et ov u0 0 N) vs) (hu : ∀ j, j < N -> vs[j]? = some (u0 j)) (hv : ∀ j, j < N -> env.val (vB + j) 0 = u0 j)
    (huu : ∀ j, j < N -> u j = u0 j) : SV.aD env ρ (et (jF vB N js ov) u 0 N) vs := by
 have hl : vs.length = N := by rw [h.length, eK]
 refine og (by rw [hl, eK]) (fun j x v hx hv' => ?_)
 have hj : j < N := by
  have := (List.getElem?_eq_some_iff.1 hx).1; rw [eK] at this; exact this
 rw [kW N 0 j hj, Nat.zero_add] at hx; injection hx with hx; obtain ⟨v2, hv2, hr⟩ := DN h hj; rw [hv'] at hv2; injection hv2 with hv2; subst hv2; unfold jF at hx; rw [dm] at hx; cases ho : b9 ov j with
 | some y => rw [ho] at hx hr; simp only at hx hr; subst hx; exact hr
 | none =>
   rw [ho] at hx hr; simp only at hx hr; rw [dm] at hx; cases ht : b9 (rG js) j with
   | some y => rw [ht] at hx; simp only at hx; rw [xW ht] at hx; subst hx; trivial
   | none =>
     rw [ht] at hx; simp only at hx; cases hs : b9 (stays vB (js ++ ov.map (·.1)) 0 N) j with
     | some y =>
       rw [hs] at hx; simp only at hx; rw [lH hs] at hx; subst hx; show v = env.val (vB + j) 0; rw [hv j hj, hr]
     | none =>
       rw [hs] at hx; simp only at hx; subst hx; show v = u j; rw [huu j hj, hr]
def jR (pr : Nat -> E) (cx : Nat -> Bool) (q : bR) (H : Head) (l : List (Nat × Nat)) (fixed : List Nat) (iN : List (FuncId × List SV)) : Option (List Ob) :=
 cond (allDiff (l.map (·.2)) && l.all (fun x => Nat.blt x.1 H.m && Nat.blt x.2 q.nx) && xu q.fr.df iN && fixed.all (fun k => Nat.beq (sig l q.nx k) k) && CR q.h H.h)
  (vW (xi pr cx (sig l q.nx) q.fr.sl H.ov) (Am pr cx (sig l q.nx) q.h H.h)) none
theorem nC {e e' : Env} {pr : Nat -> E} {cx : Nat -> Bool} (hn : cY e e' pr cx) {q : bR} {H : Head} {l : List (Nat × Nat)} {fixed : List Nat} {u : Nat -> Value} {es : List Ob} {iN : List (FuncId × List SV)} (hdv : ∀ ρ ρ' ds, eZ e ρ iN ds -> eZ e' ρ' iN ds) (h : jR pr cx q H l fixed iN = some es) (ht : cL e es) : HA e e' q H l [] fixed u iN := by
 unfold jR at h; cases hc : (allDiff (l.map (·.2)) && l.all (fun x => Nat.blt x.1 H.m && Nat.blt x.2 q.nx) && xu q.fr.df iN && fixed.all (fun k => Nat.beq (sig l q.nx k) k) && CR q.h H.h) with
 | false => rw [hc] at h; cases h
 | true =>
   rw [hc] at h; simp only [cond_true] at h; obtain ⟨l1, l2, h1, h2, rfl⟩ := fV h; obtain ⟨t1, t2⟩ := aM.1 ht; simp only [Bool.and_eq_true] at hc; obtain ⟨⟨⟨⟨c1, c2⟩, c3⟩, c4⟩, c5⟩ := hc; exact ⟨tE hn h1 t1, zx hn h2 t2, c1, c2, zR c3, hdv, fun j hj => (by cases hj), fun k hk => Nat.eq_of_beq_eq_true (List.all_eq_true.1 c4 k hk), c5⟩
def lq (vB N : Nat) (js : List Nat) (H : Head) : Head := ⟨jF vB N js H.ov, H.h, H.m, H.fs⟩
structure gz (H' H : Head) : Prop where
 ov : H'.ov = H.ov
 h : H'.h = H.h
 m : H'.m = H.m
theorem gz.refl (H : Head) : gz H H := ⟨rfl, rfl, rfl⟩
theorem gz.full {H' H : Head} (k : gz H' H) (vB N : Nat) (js : List Nat) : gz (lq vB N js H') (lq vB N js H) := ⟨by unfold lq; simp only; rw [k.ov], k.h, k.m⟩
theorem gz.turns {e e' : Env} {q : bR} {H H' : Head} {l : List (Nat × Nat)} {cU fixed : List Nat} {u : Nat -> Value} {iN : List (FuncId × List SV)} (k : gz H' H) (T : HA e e' q H l cU fixed u iN) : HA e e' q H' l cU fixed u iN :=
 ⟨by rw [k.ov]; exact T.ov, by rw [k.h]; exact T.hp, T.inj, by rw [k.m]; exact T.lt, T.df, T.dv, T.cU, T.fixed, by rw [k.h]; exact T.B2⟩
def vU : eI -> eI -> Bool
 | .normal, .normal => true
 | .exit a, .exit b => Nat.beq a b
 | .ret, .ret => true
 | _, _ => false
theorem y3 {a b : eI} (h : vU a b = true) : a = b := by
 cases a <;> cases b <;> simp only [vU] at h <;> first
  | rfl
  | (cases h; done)
  | (rw [Nat.eq_of_beq_eq_true h]; done)
theorem yj {vB N : Nat} {js : List Nat} {ov : List (Nat × SV)} {j : Nat} (hj : j < N) : ∃ x, b9 (jF vB N js ov) j = some x := by
 have hs : ∀ {ex : List Nat} {n i : Nat}, j ∉ ex -> i <= j -> j < i + n -> ∃ x, b9 (stays vB ex i n) j = some x := by
  intro ex n
  induction n with
  | zero => intro i _ h1 h2; omega
  | succ n ih =>
    intro i hex h1 h2; simp only [stays]; cases hx : qm i ex with
    | true =>
      have : i ≠ j := fun e => hex (by rw [<- e]; exact cQ.1 hx)
      exact ih hex (by omega) (by omega)
    | false =>
      simp only [cond_false, b9]; cases hb : Nat.beq i j with
      | true => exact ⟨_, rfl⟩
      | false =>
        have : i ≠ j := fun e => by subst e; simp at hb
        exact ih hex (by omega) (by omega)
 unfold jF; rw [dm]; cases ho : b9 ov j with
 | some x => exact ⟨x, rfl⟩
 | none =>
   simp only; rw [dm]; cases ht : b9 (rG js) j with
   | some x => exact ⟨x, rfl⟩
   | none =>
     refine hs (fun hm => ?_) (Nat.zero_le _) (by omega)
     rcases List.mem_append.1 hm with h1 | h1
     ·obtain ⟨x, hx⟩ := sY (l := rG js) (j := j) (by simpa [rG] using h1)
      rw [hx] at ht; cases ht
     ·obtain ⟨x, hx⟩ := sY h1; rw [hx] at ho; cases ho
theorem gD {vB N : Nat} {js : List Nat} {ov : List (Nat × SV)} (u u' : Nat -> Value) : et (jF vB N js ov) u 0 N = et (jF vB N js ov) u' 0 N := by
 apply List.ext_getElem?
 intro i
 by_cases hi : i < N
 ·rw [kW N 0 i hi, kW N 0 i hi, Nat.zero_add]; obtain ⟨x, hx⟩ := yj (vB := vB) (js := js) (ov := ov) hi; rw [hx]
 ·rw [List.getElem?_eq_none (by rw [eK]; omega), List.getElem?_eq_none (by rw [eK]; omega)]
def Kh (m n : Nat) (l : List (Nat × Nat)) : List (Nat × Nat) := cond (l.any fun x => Nat.beq x.1 m) l ((m, n) :: l)
mutual
def mtch : SV -> SV -> List (Nat × Nat) -> List (Nat × Nat)
 | .ptr n _, .ptr m _, l => Kh m n l
 | .sl n _ _ _, .sl m _ _ _, l => Kh m n l
 | .map n, .map m, l => Kh m n l
 | .chan n, .chan m, l => Kh m n l
 | .eh _ x, .eh _ y, l => mtch x y l
 | .agg a, .agg b, l => mtchs a b l
 | .fq a, .fq b, l => mtchs a b l
 | .fn _ a c, .fn _ b d, l => mtchs c d (mtchs a b l)
 | _, _, l => l
def mtchs : List SV -> List SV -> List (Nat × Nat) -> List (Nat × Nat)
 | x :: a, y :: b, l => mtchs a b (mtch x y l)
 | _, _, l => l
end
def adb : aA -> aA -> List (Nat × Nat) -> List (Nat × Nat)
 | .cells _ a, .cells _ b, l => mtchs a b l
 | .pf n _ _, .pf m _ _, l => Kh m n l
 | .k7 _ _ _ _ (some n), .k7 _ _ _ _ (some m), l => Kh m n l
 | _, _, l => l
def L5 (sl : List SV) : List (Nat × SV) -> List (Nat × Nat) -> List (Nat × Nat)
 | [], l => l
 | (j, y) :: r, l => L5 sl r (match nth sl j with | some x => mtch x y l | none => l)
def TU (m : Nat) : List (Nat × Nat) -> Option Nat
 | [] => none
 | (a, b) :: r => cond (Nat.beq a m) (some b) (TU m r)
def tU : aQ -> List (Nat × Nat) -> Prog (List (Nat × Nat))
 | [], l => .ret l
 | (m, o') :: r, l =>
   match TU m l with
   | none => tU r l
   | some n => .get n fun o => tU r (adb o o' l)
def HN (sl : List SV) (H : Head) : Prog (List (Nat × Nat)) := do
 let l <- tU H.h (L5 sl H.ov [])
 let l <- tU H.h l
 tU H.h l
def Nz (q : bR) (H : Head) : Option (List (Nat × Nat)) :=
 match (HN q.fr.sl H).run [] q.h [] aG.nil with
 | .ok r => some r.a
 | .error _ => none
inductive MP where
 | ret (n : Nat)
 | fail
 | get (n : Nat) (k : aA -> MP)
def MP.prog : MP -> Prog Nat
 | .ret n => .ret n
 | .fail => .fail "no mode"
 | .get n k => .get n fun o => (k o).prog
def MP.at (h : aQ) : MP -> Option Nat
 | .ret n => some n
 | .fail => none
 | .get n k => match bZ h n with | some o => (k o).at h | none => none
theorem MP.zy {env : Env} : ∀ {p : MP} {h h' : aL} {n : Nat}, p.prog.bx env h n h' -> h = h'
 | .ret _, _, _, _, he => he.2
 | .fail, _, _, _, he => he.elim
 | .get _ k, _, _, _, ⟨o, _, he⟩ => MP.zy he
def CD : List (TypeId × aJ) -> TypeId -> Option aJ
 | [], _ => none
 | (t, k) :: r, T => cond (Nat.beq t T) (some k) (CD r T)
structure aj where
 f : FuncId
 key : Nat
 N : Nat
 r : Nat
 base : Nat
 js : List Nat
 hd : Nat -> Head
 aV : Nat -> aa
 app : List SV -> Bool
 nT : Nat -> Bool
 dY : List SV -> MP
 ml : Nat -> Bool
 mf : Nat -> aa
 hx : Nat -> Head
 ur : eI -> List SV -> MP
 oN : Nat -> eI
 bz : List (E × Nat)
 fixed : List Nat
 lt : E
 X : dF
 fuel : Nat
 np : Nat
 params : List Nat := []
 yn : List (TypeId × aJ) := []
 pins : List SV -> List (Nat × E) := fun _ => []
 aci : List (Nat × Nat) := []
 OP : List (Nat × Nat × Nat × List Nat) := []
 PR : List (FuncId × Nat) := []
namespace aj
def iN (D : aj) : List (FuncId × List SV) := Jn (D.base + 900) D.PR
theorem AD (D : aj) {e e' : Env} {pr : Nat -> E} (hn : cY e e' pr (fun _ => true)) (ρ ρ' : af) (ds : List Deferred) (h : eZ e ρ D.iN ds) : eZ e' ρ' D.iN ds := vv (fun c i => hn.val c rfl i) h
def mode (D : aj) (sl : List SV) : Prog Nat := (D.dY sl).prog
theorem ack (D : aj) {env : Env} (sl : List SV) {h h' : aL} {n : Nat} (he : (D.mode sl).bx env h n h') : h = h' := MP.zy he
def cx (D : aj) (c : Nat) : Bool := Nat.blt c D.base || Nat.ble (D.base + 1000) c
def Zp (D : aj) (n : Nat) : E := cond (Nat.beq n D.r) (.o2 .add (.v n) (.il 1)) (.v n)
def TK (D : aj) (n : Nat) : E := cond (Nat.beq n D.r) (.il 0) (.v n)
def jG (fs : aa) : List Ob -> List Ob
 | [] => []
 | o :: r => match nH fs o with
   | some true => jG fs r
   | _ => o :: jG fs r
theorem gS {env : Env} {fs : aa} (hf : fs.aB env) : ∀ {l : List Ob}, cL env (jG fs l) -> cL env l
 | [], _ => fun x hx => by cases hx
 | o :: r, h => by
   unfold jG at h; intro x hx; split at h
   ·rename_i hd; rcases List.mem_cons.1 hx with rfl | hx
    ·exact xP hf hd
    ·exact gS hf h x hx
   ·rcases List.mem_cons.1 hx with rfl | hx
    ·exact h _ (List.mem_cons_self ..)
    ·exact gS hf (fun y hy => h y (List.mem_cons_of_mem _ hy)) x hx
def env (D : aj) (e : Env) (u : Nat -> Value) (i : Nat) : Env where
 v n := if n = D.r then .i i else e.v n
 fn := e.fn
 val c z := if D.base <= c /\ c < D.base + 1000 then u (c - D.base) else e.val c z
 mp := e.mp
 uf := e.uf
theorem NP (D : aj) (e : Env) (u : Nat -> Value) (i : Nat) : cY (D.env e u i) (D.env e u (i + 1)) D.Zp (fun _ => true) := by
 refine ⟨fun n => ?_, rfl, fun _ _ _ => rfl, rfl, rfl⟩; unfold Zp; cases hb : Nat.beq n D.r with
 | true =>
   obtain rfl := Nat.eq_of_beq_eq_true hb; simp only [cond_true, E.den, O2.den, env, if_true, Dv.I]; rfl
 | false =>
   have : n ≠ D.r := fun e => by subst e; simp at hb
   simp only [cond_false, E.den, env, if_neg this]
theorem PZ {D : aj} {c : Nat} (h : D.cx c = true) : ¬ (D.base <= c /\ c < D.base + 1000) := by
 unfold cx at h; rw [Bool.or_eq_true] at h; rcases h with h | h
 ·unfold Nat.blt at h; have := Nat.le_of_ble_eq_true h; omega
 ·have := Nat.le_of_ble_eq_true h; omega
theorem Mc (D : aj) (e : Env) (u : Nat -> Value) (i : Nat) : cY (D.env e u i) (D.env e u 0) D.TK (fun _ => true) := by
 refine ⟨fun n => ?_, rfl, fun _ _ _ => rfl, rfl, rfl⟩; unfold TK; cases hb : Nat.beq n D.r with
 | true => obtain rfl := Nat.eq_of_beq_eq_true hb; simp only [cond_true, E.den, env, if_true]; rfl
 | false =>
   have : n ≠ D.r := fun e => by subst e; simp at hb
   simp only [cond_false, E.den, env, if_neg this]
def qZ (θ : List (Nat × E)) (n : Nat) : E :=
 match θ with
 | [] => .v n
 | (p, a) :: r => cond (Nat.beq p n) a (qZ r n)
def jL (e : Env) (θ : List (Nat × E)) : Env := { e with v := fun n => (qZ θ n).den e }
theorem FU {θ : List (Nat × E)} {n : Nat} (h : n ∉ θ.map (·.1)) : qZ θ n = .v n := by
 induction θ with
 | nil => rfl
 | cons x r ih =>
   obtain ⟨p, a⟩ := x; simp only [List.map_cons, List.mem_cons, not_or] at h; unfold qZ; have : Nat.beq p n = false := by rw [Bool.eq_false_iff]; intro he; exact h.1 (Nat.eq_of_beq_eq_true he).symm
   rw [this]; exact ih h.2
theorem M5 (e : Env) (θ : List (Nat × E)) : cY e (jL e θ) (qZ θ) (fun _ => true) := ⟨fun _ => rfl, rfl, fun _ _ _ => rfl, rfl, rfl⟩
theorem Si (D : aj) {e : Env} {θ : List (Nat × E)} (hr : qZ θ D.r = .il 0) (u : Nat -> Value) : cY e (D.env (jL e θ) u 0) (qZ θ) D.cx := by
 refine ⟨fun n => ?_, rfl, fun c hc z => ?_, rfl, rfl⟩
 ·simp only [env, jL]
  by_cases h : n = D.r
  ·subst h; rw [if_pos rfl, hr]; rfl
  ·rw [if_neg h]
 ·simp only [env, if_neg (PZ hc)]; rfl
def nD : aa -> List Ob
 | [] => []
 | (e, true) :: r => .e e :: nD r
 | (e, false) :: r => .e (lS e) :: nD r
theorem j9 {env : Env} : ∀ {fs : aa}, cL env (nD fs) -> fs.aB env
 | [], _ => ib
 | (e, true) :: r, h => aa.fh (h _ (List.mem_cons_self ..)) (j9 fun x hx => h x (List.mem_cons_of_mem _ hx))
 | (e, false) :: r, h => aa.fh (by
     have : ((lS e).den env).B = true := h _ (List.mem_cons_self ..); rw [ij] at this
     simpa using this) (j9 fun x hx => h x (List.mem_cons_of_mem _ hx))
def o5 (pr : Nat -> E) (fs : aa) : aa := fs.map fun x => (x.1.aR pr, x.2)
theorem j8 {e e' : Env} {pr : Nat -> E} {cx : Nat -> Bool} (hn : cY e e' pr cx) {fs : aa} (h : (o5 pr fs).aB e) : fs.aB e' := fun x b hm => by
 have := h (x.aR pr) b (List.mem_map.2 ⟨(x, b), hm, rfl⟩); rw [E.aO hn] at this; exact this
def ez : List (E × Nat) -> Nat -> Option (List Ob)
 | [], _ => none
 | (c, ν) :: r, m => cond (Nat.beq ν m) (some (cond (c.same (.bl true)) [] [.e c])) ((ez r m).map fun l => .e (lS c) :: l)
theorem lV {e e' : Env} {pr : Nat -> E} {cx : Nat -> Bool} (hn : cY e e' pr cx) : ∀ {l : List (E × Nat)} {ν : Nat} {xs : List Ob}, ez (l.map fun x => (x.1.aR pr, x.2)) ν = some xs -> cL e xs -> ∃ ys, ez l ν = some ys /\ cL e' ys
 | [], _, _, h, _ => by cases h
 | (c, m) :: r, ν, xs, h, ht => by
   simp only [List.map_cons, ez] at h ⊢; cases hb : Nat.beq m ν with
   | true =>
     rw [hb] at h; simp only [cond_true, Option.some.injEq] at h; refine ⟨_, rfl, ?_⟩
     have hc : (c.den e').B = true := by
      rw [<- E.aO hn]; cases hs : (c.aR pr).same (.bl true) with
      | true => rw [E.ax hs]; rfl
      | false => rw [hs] at h; subst h; exact ht _ (List.mem_singleton.2 rfl)
     intro x hx; cases hs : c.same (.bl true) with
     | true => rw [hs] at hx; cases hx
     | false => rw [hs] at hx; rw [List.mem_singleton.1 hx]; exact hc
   | false =>
     rw [hb] at h; simp only [cond_false, Option.map_eq_some_iff] at h ⊢; obtain ⟨zs, h1, rfl⟩ := h; obtain ⟨ys, g1, g2⟩ := lV hn h1 (fun x hx => ht x (List.mem_cons_of_mem _ hx)); refine ⟨_, ⟨ys, g1, rfl⟩, fun x hx => ?_⟩; rcases List.mem_cons.1 hx with rfl | hx
     ·have hc : ((lS (c.aR pr)).den e).B = true := ht _ (List.mem_cons_self ..); show ((lS c).den e').B = true; rw [ij] at hc ⊢; rw [<- E.aO hn]; exact hc
     ·exact g2 x hx
def Gj (D : aj) : List (E × Nat) := D.bz.map fun x => (x.1.aR D.TK, x.2)
def full (D : aj) (H : Head) : Head := lq D.base D.N D.js H
def kd (P : Program) (D : aj) (T : TypeId) : Option aJ :=
 match CD D.yn T with
 | some k => some k
 | none => agf P T
def It (D : aj) (q : bR) : Bool :=
 match q.ex with
 | .normal => fC q.vcs || (match (D.dY q.fr.sl).at q.h with | some m => Nat.beq m 777 | none => false)
 | _ => fC q.vcs
def fU (P : Program) (D : aj) (nh : Nat) (q : bR) : Option (aa × List Ob) :=
 cond (Nat.beq q.fr.sl.length D.N)
  (cond (D.It q) (some (q.fs.take (q.fs.length - nh), [.e (.bl false)])) <| match q.ex with
  | .normal =>
    match (D.dY q.fr.sl).at q.h with
    | some μ' =>
      match Nz q (D.hd μ') with
      | some l =>
        match q.lz (D.kd P) (D.hd μ').ov (D.hd μ').h l with
        | some (q', ob) => cond (D.ml μ') ((jR D.Zp (fun _ => true) q' (D.full (D.hd μ')) l D.fixed D.iN).map fun es => (q.fs.take (q.fs.length - nh), jG q.fs (.e D.lt :: (nD (o5 D.Zp (D.mf μ')) ++ (q.vcs ++ (ob ++ es)))))) none
        | none => none
      | none => none
    | none => none
  | ex =>
    match (D.ur ex q.fr.sl).at q.h with
    | some ν =>
      match Nz q (D.hx ν), ez D.Gj ν with
      | some l, some xs =>
        match q.lz (D.kd P) (D.hx ν).ov (D.hx ν).h l with
        | some (q', ob) => cond (vU ex (D.oN ν)) ((jR D.TK (fun _ => true) q' (D.full (D.hx ν)) l D.fixed D.iN).map fun es => (q.fs.take (q.fs.length - nh), jG q.fs (xs ++ (q.vcs ++ (ob ++ es))))) none
        | none => none
      | _, _ => none
    | none => none) none
def lM (P : Program) (D : aj) (nh : Nat) : List bR -> Option (List (aa × List Ob))
 | [] => some []
 | q :: r =>
   match D.fU P nh q, D.lM P nh r with
   | some x, some l => some (x :: l)
   | _, _ => none
def paths (P : Program) (D : aj) (μ : Nat) : Ex (List bR) :=
 ik P D.X D.fuel (.code D.f (fR P D.f D.key) ⟨et (D.full (D.hd μ)).ov (fun _ => .nilIface) 0 D.N, D.iN⟩) (D.hd μ).h (D.hd μ).m D.np (D.hd μ).fs []
def jC (P : Program) (D : aj) (μ : Nat) : Option (List (aa × List Ob)) :=
 match D.paths P μ with
 | .ok l => cond ((D.hd μ).h.all fun x => bS x.2) (D.lM P (D.hd μ).fs.length l) none
 | _ => none
theorem kJ {P : Program} {D : aj} {nh : Nat} : ∀ {l : List bR} {L : List (aa × List Ob)}, D.lM P nh l = some L -> ∀ q ∈ l, ∃ x ∈ L, D.fU P nh q = some x
 | [], L, _, q, hq => by cases hq
 | p :: r, L, h, q, hq => by
   unfold lM at h; split at h
   ·rename_i x l hx hl; injection h with h; subst h; rcases List.mem_cons.1 hq with rfl | hq
    ·exact ⟨x, List.mem_cons_self .., hx⟩
    ·obtain ⟨y, hy, h2⟩ := kJ hl q hq; exact ⟨y, List.mem_cons_of_mem _ hy, h2⟩
   ·cases h
def leaves (P : Program) (D : aj) (μ : Nat) : List bR :=
 match D.paths P μ with
 | .ok l => l
 | _ => []
theorem xZ {P : Program} {D : aj} {μ : Nat} {L : List (aa × List Ob)} (h : D.jC P μ = some L) : D.paths P μ = .ok (D.leaves P μ) /\ ((D.hd μ).h.all fun x => bS x.2) = true /\ D.lM P (D.hd μ).fs.length (D.leaves P μ) = some L := by
 unfold jC at h; unfold leaves; cases hp : D.paths P μ with
 | error e => rw [hp] at h; cases h
 | ok l =>
   rw [hp] at h; simp only at h ⊢; cases hb : (D.hd μ).h.all fun x => bS x.2 with
   | false => rw [hb] at h; cases h
   | true => rw [hb] at h; exact ⟨trivial, rfl, h⟩
theorem comp {P : Program} (hP : Plain P) (hM : P.follows .mixedOrders = true) {D : aj} (hbody : ((P.funcs[D.f]?).bind (·.body)).isSome = true) {e : Env} {u : Nat -> Value} {A : Anchor} {n : Nat} {mode : Nat -> Nat -> Prop}
    (hX : ∀ i, i <= n -> eJ P (D.env e u i) A (D.X.cR P)) {L : Nat -> List (aa × List Ob)} (n5 : ∀ i μ, mode i μ -> D.jC P μ = some (L μ))
    (cJ : ∀ i μ, mode i μ -> i <= n -> ∀ x ∈ L μ, x.1.aB (D.env e u i) -> cL (D.env e u i) x.2) (As : ∀ i μ, mode i μ -> i <= n -> (D.hd μ).fs.aB (D.env e u i)) (cW : ∀ i, i <= n -> (D.lt.den (D.env e u i)).B = true -> i < n)
    (zL : ∀ i μ μ', mode i μ -> D.ml μ' = true -> (D.mf μ').aB (D.env e u (i + 1)) -> i + 1 <= n -> ∃ μ2, mode (i + 1) μ2 /\ gz (D.hd μ2) (D.hd μ')) (hxobj : ∀ ν, ((D.hx ν).h.all fun x => bS x.2) = true)
    {ρ0 : af} {u0 : Nat -> Value} {a : Act} {w : World} {Q : Exit -> Act -> World -> Prop} {μ0 : Nat} (tJ : mode 0 μ0)
    (hs : Sat (D.env e u 0) A ρ0 ⟨et (D.full (D.hd μ0)).ov u0 0 D.N, D.iN⟩ (bg (D.hd μ0).h) (D.hd μ0).m a w)
    (hexit : ∀ ν ρ (a' : Act) w', (∃ xs, ez D.bz ν = some xs /\ cL (D.env e u 0) xs) -> ((∀ k ∈ D.fixed, ∀ p, ρ0 k = some p -> ρ k = some p) /\ Fz.le ρ0.fz ρ.fz) ->
     Sat (D.env e u 0) A ρ ⟨et (D.full (D.hx ν)).ov (fun _ => .nilIface) 0 D.N, D.iN⟩ (bg (D.hx ν).h) (D.hx ν).m a' w' -> Q (D.oN ν).den a' w') :
    (Code.loop (fR P D.f D.key)).wp P Q a w := by
 have leaf : ∀ i μ, mode i μ -> ∀ q ∈ D.leaves P μ, ∃ x ∈ L μ, D.fU P (D.hd μ).fs.length q = some x := fun i μ hm q hq => kJ (xZ (n5 i μ hm)).2.2 q hq
 have split : ∀ {nh : Nat} {q : bR} {x : aa × List Ob}, D.fU P nh q = some x -> q.fr.sl.length = D.N /\ (∀ env, q.fs.aB env -> x.1.aB env) /\
     ((q.ex = .normal /\ ∃ μ' l q' ob es, q.lz (D.kd P) (D.hd μ').ov (D.hd μ').h l = some (q', ob) /\ D.ml μ' = true /\ jR D.Zp (fun _ => true) q' (D.full (D.hd μ')) l D.fixed D.iN = some es /\ x.2 = jG q.fs (.e D.lt :: (nD (o5 D.Zp (D.mf μ')) ++ (q.vcs ++ (ob ++ es))))) \/
      (q.ex ≠ .normal /\ ∃ ν l q' ob es xs, q.lz (D.kd P) (D.hx ν).ov (D.hx ν).h l = some (q', ob) /\ q.ex = D.oN ν /\ ez D.Gj ν = some xs /\ jR D.TK (fun _ => true) q' (D.full (D.hx ν)) l D.fixed D.iN = some es /\ x.2 = jG q.fs (xs ++ (q.vcs ++ (ob ++ es)))) \/ x.2 = [.e (.bl false)]) := by
  intro nh q x h; have htk : ∀ env, q.fs.aB env -> aa.aB env (q.fs.take (q.fs.length - nh)) := fun env hh e b hm => hh e b (List.mem_of_mem_take hm); unfold fU at h; cases hb : Nat.beq q.fr.sl.length D.N with
  | false => rw [hb] at h; cases h
  | true =>
    rw [hb] at h; simp only [cond_true] at h; refine ⟨Nat.eq_of_beq_eq_true hb, ?_⟩; cases hdd : D.It q with
    | true =>
      rw [hdd, cond_true] at h; injection h with h; subst h; exact ⟨htk, .inr (.inr rfl)⟩
    | false =>
    rw [hdd, cond_false] at h; split at h
    ·rename_i hex; split at h
     ·rename_i μ' hmu; split at h
      ·rename_i l hl; split at h
       ·rename_i q' ob hth; cases htg : D.ml μ' with
        | false => rw [htg] at h; cases h
        | true =>
          rw [htg] at h; simp only [cond_true, Option.map_eq_some_iff] at h; obtain ⟨es, h1, rfl⟩ := h; exact ⟨htk, .inl ⟨hex, μ', l, q', ob, es, hth, htg, h1, rfl⟩⟩
       ·cases h
      ·cases h
     ·cases h
    ·rename_i hex; split at h
     ·rename_i ν hnu; split at h
      ·rename_i l xs hl hxs; split at h
       ·rename_i q' ob hth; cases hsm : vU q.ex (D.oN ν) with
        | false => rw [hsm] at h; cases h
        | true =>
          rw [hsm] at h; simp only [cond_true] at h; rw [Option.map_eq_some_iff] at h; obtain ⟨es, h1, rfl⟩ := h; exact ⟨htk, .inr (.inl ⟨hex, ν, l, q', ob, es, xs, hth, y3 hsm, hxs, h1, rfl⟩)⟩
       ·cases h
      ·cases h
     ·cases h
 refine EC hP hM (oJ D.key hbody) (N := D.N) (heads := fun μ => D.full (D.hd μ)) (env := D.env e u) (A := A) (n := n) (mode := mode) (X := D.X) hX (fuel := D.fuel) (np := D.np) (js := [])
  (leaves := fun μ _ => D.leaves P μ) (cU := []) (fixed := D.fixed) (u0 := u0) (ρ0 := ρ0) (fun i μ u hm => ?_) As (fun i μ hm => (xZ (n5 i μ hm)).2.1) (fun i μ u hm q hq _ => ?_) (fun i μ u hm hi _ q hq hqf => ?_) (fun i μ u2 ρ a' w' hm hi q hq hqf hex _ hfix hsq => ?_) tJ hs
 ·have := (xZ (n5 i μ hm)).1; unfold paths at this; rw [<- this]; show ik P D.X D.fuel (.code D.f (fR P D.f D.key) ⟨et (jF D.base D.N D.js (D.hd μ).ov) u 0 D.N, D.iN⟩) _ _ _ _ _ = ik P D.X D.fuel (.code D.f (fR P D.f D.key) ⟨et (jF D.base D.N D.js (D.hd μ).ov) (fun _ => .nilIface) 0 D.N, D.iN⟩) _ _ _ _ _; rw [gD u (fun _ => .nilIface)]; rfl
 ·obtain ⟨x, _, hx⟩ := leaf i μ hm q hq; exact (split hx).1
 ·obtain ⟨x, hxL, hx⟩ := leaf i μ hm q hq; obtain ⟨hl, hfx, hc⟩ := split hx; have ht := cJ i μ hm hi x hxL (hfx _ hqf); rcases hc with ⟨hex, μ', l, q', ob, es, hth, h1, h2, h3⟩ | ⟨hex, ν, l, q', ob, es, xs, hth, h1, h2, h3, h4⟩ | h3
  rotate_right
  ·rw [h3] at ht; exact (gL (vcs := [.e (.bl false)]) rfl ht).elim
  ·rw [h3] at ht; have ht := gS hqf ht; have t0 := ht _ (List.mem_cons_self ..); obtain ⟨tm, ht⟩ := aM.1 (fun y hy => ht y (List.mem_cons_of_mem _ hy)); obtain ⟨t1, t2⟩ := aM.1 ht; obtain ⟨t3, t2⟩ := aM.1 t2; refine ⟨t1, fun _ => ⟨cW i hi t0, ?_⟩⟩; obtain ⟨μ2, hm2, hsame⟩ := zL i μ μ' hm h1 (j8 (D.NP e _ i) (j9 tm)) (cW i hi t0); exact ⟨μ2, l, q', hm2, bR.nu hth t3, (hsame.full _ _ _).turns (nC (D.NP e _ i) (D.AD (D.NP e _ i)) h2 t2)⟩
  ·rw [h4] at ht; have ht := gS hqf ht; exact ⟨(aM.1 (aM.1 ht).2).1, fun he => absurd he hex⟩
 ·obtain ⟨x, hxL, hx⟩ := leaf i μ hm q hq; obtain ⟨hl, hfx, hc⟩ := split hx; have ht := cJ i μ hm hi x hxL (hfx _ hqf); rcases hc with ⟨hex', _⟩ | ⟨_, ν, l, q', ob, es, xs, hth, h1, h2, h3, h4⟩ | h3
  ·exact absurd hex' hex
  rotate_right
  ·rw [h3] at ht; exact (gL (vcs := [.e (.bl false)]) rfl ht).elim
  ·rw [h4] at ht; have ht := gS hqf ht; obtain ⟨t0, ht⟩ := aM.1 ht; obtain ⟨t3, t4⟩ := aM.1 (aM.1 ht).2; have hT := bR.nu hth t3; obtain ⟨ρ3, hle3, hs3⟩ := hT.sat A ρ a' w' hsq; have T := nC (u := fun _ => .nilIface) (D.Mc e u i) (D.AD (D.Mc e u i)) h3 t4; obtain ⟨ys, hy1, hy2⟩ := lV (D.Mc e u i) h2 t0; have S := rN hs3 T.ov T.hp (hxobj ν) T.inj T.lt T.df T.dv (hT.len.trans hl) T.B2; rw [h1]
   refine hexit ν (ρ3.re (sig l q'.nx)) a' w' ⟨ys, hy1, hy2⟩ ⟨fun k hk p hp => ?_, Fz.le_trans hfix.2 hle3.fz⟩ (by
    have e : et (D.full (D.hx ν)).ov (fun j => (a'.tmps.toList[j]?).getD undef) 0 D.N = et (D.full (D.hx ν)).ov (fun _ => .nilIface) 0 D.N := gD _ _; rw [e] at S
    exact S)
   show ρ3 (sig l q'.nx k) = some p; rw [T.fixed k hk]; exact hle3 k p (hfix.1 k hk p hp)
end aj
end Go.Sx
