/-
  SX, PART 27: a loop's contract, computed: heads, paths and what is left to show.
-/
import Derived.Test.YtdlppkhmmclipaaGreatSxMLoop
namespace Go.Sx
open Go.RowKit
set_option linter.unusedVariables false
set_option linter.unusedSimpArgs false
def E.aT (pr : Nat -> E) : E -> E
 | .v n => pr n
 | .il z => .il z
 | .bl b => .bl b
 | .sl s => .sl s
 | .fn c a => .fn c (a.aT pr)
 | .uf c a => .uf c (a.aT pr)
 | .o1 o a => gk o (a.aT pr)
 | .o2 o a b => jT o (a.aT pr) (b.aT pr)
 | .ext s lo hi => .ext (s.aT pr) (lo.aT pr) (hi.aT pr)
structure c8 (e e' : Env) (pr : Nat -> E) (cx : Nat -> Bool) : Prop where
 v : ∀ n, e'.v n = (pr n).den e
 fn : e'.fn = e.fn
 val : ∀ c, cx c = true -> ∀ i, e'.val c i = e.val c i
 mp : e'.mp = e.mp
 uf : e'.uf = e.uf
theorem E.aP {e e' : Env} {pr : Nat -> E} {cx : Nat -> Bool} (h : c8 e e' pr cx) : ∀ (x : E), (x.aT pr).den e = x.den e' := by
 intro x
 induction x with
 | v n => exact (h.v n).symm
 | fn c a ih => simp only [E.aT, E.den, ih, h.fn]
 | uf c a ih => simp only [E.aT, E.den, ih, h.uf]
 | o1 o a ih => simp only [E.aT, bA, E.den, ih]
 | o2 o a b iha ihb => simp only [E.aT, bq, E.den, iha, ihb]
 | ext s lo hi i1 i2 i3 => simp only [E.aT, E.den, i1, i2, i3]
 | _ => rfl
def sB (a b : E) : List Ob := cond (a.same b) [] [.e (.o2 .aN a b)]
def Nw (a b : E) : List Ob := cond (a.same b) [] [.e (.o2 .beq a b)]
def Oy (a b : E) : List Ob := cond (a.same b) [] [.e (.o2 .seq a b)]
def cM (e : Env) (l : List Ob) : Prop := ∀ x ∈ l, x.den e
theorem aL {e : Env} {a b : List Ob} : cM e (a ++ b) ↔ cM e a /\ cM e b :=
 ⟨fun h => ⟨fun x hx => h x (List.mem_append_left _ hx), fun x hx => h x (List.mem_append_right _ hx)⟩, fun h x hx => (List.mem_append.1 hx).elim (h.1 x) (h.2 x)⟩
theorem gD {e : Env} {a b : E} (h : cM e (sB a b)) : (a.den e).I = (b.den e).I := by
 unfold sB at h; cases hs : a.same b with
 | true => rw [E.ax hs]
 | false =>
   rw [hs] at h; have : ((a.den e).I == (b.den e).I) = true := h _ (List.mem_singleton.2 rfl); simpa using this
theorem Az {e : Env} {a b : E} (h : cM e (Nw a b)) : (a.den e).B = (b.den e).B := by
 unfold Nw at h; cases hs : a.same b with
 | true => rw [E.ax hs]
 | false =>
   rw [hs] at h; have : ((a.den e).B == (b.den e).B) = true := h _ (List.mem_singleton.2 rfl); simpa using this
theorem G2 {e : Env} {a b : E} (h : cM e (Oy a b)) : (a.den e).S = (b.den e).S := by
 unfold Oy at h; cases hs : a.same b with
 | true => rw [E.ax hs]
 | false =>
   rw [hs] at h; have : ((a.den e).S.toList == (b.den e).S.toList) = true := h _ (List.mem_singleton.2 rfl); have h2 : (a.den e).S.toList = (b.den e).S.toList := by simpa using this
   have h4 : ((a.den e).S == (b.den e).S) = true := by rw [bytes_beq]; exact this
   have h5 : ((a.den e).S.data == (b.den e).S.data) = true := h4; exact ByteArray.ext (by simpa using h5)
def s0 (a b : E) : List Ob := cond (a.same b) [] [.t a b]
def MC (a b : E) : List Ob := cond (a.same b) [] [.p a b]
theorem AT {e : Env} {a b : E} (h : cM e (MC a b)) : (a.den e).T.Perm (b.den e).T := by
 unfold MC at h; cases hs : a.same b with
 | true => rw [E.ax hs]
 | false => rw [hs] at h; exact h _ (List.mem_singleton.2 rfl)
theorem iE {e : Env} {a b : E} (h : cM e (s0 a b)) : (a.den e).T = (b.den e).T := by
 unfold s0 at h; cases hs : a.same b with
 | true => rw [E.ax hs]
 | false => rw [hs] at h; exact h _ (List.mem_singleton.2 rfl)
section
variable (pr : Nat -> E) (cx : Nat -> Bool) (σ : Nat -> Nat)
def xG (a b : Option (List Ob)) : Option (List Ob) :=
 match a, b with
 | some x, some y => some (x ++ y)
 | _, _ => none
def ifB (b : Bool) : Option (List Ob) := cond b (some []) none
mutual
def entC : SV -> SV -> Option (List Ob)
 | _, .top => some []
 | .int k a, .int k' b => cond (fo k k') (some (sB a (b.aT pr))) none
 | .bool a, .bool b => some (Nw a (b.aT pr))
 | .str a, .str b => some (Oy a (b.aT pr))
 | .val c a, .val d b => cond (Nat.beq c d && cx c) (some (sB a (b.aT pr))) none
 | .fZ, .fZ => some []
 | .ptr n (.c j), .ptr m (.c j') => ifB (Nat.beq n (σ m) && Nat.beq j j')
 | .mw, .mw => some []
 | .bO, .bO => some []
 | .sl n sz lo len, .sl m sz' lo' len' => cond (Nat.beq n (σ m) && Nat.beq sz sz') (some (sB lo (lo'.aT pr) ++ sB len (len'.aT pr))) none
 | .bQ ks a, .bQ ks' b => cond (ks.same ks') (some (s0 a (b.aT pr))) none
 | .bO, .bQ _ b => some (s0 (.il 0) (b.aT pr))
 | .iG ks a, .bQ ks' b => cond (ks.same ks') (some (s0 a (b.aT pr))) none
 | .iG ks a, .iG ks' b => cond (ks.same ks') (some (s0 a (b.aT pr))) none
 | .dH ks a i j, .dH ks' b i' j' => cond (ks.same ks' && Nat.beq j j') (some (s0 (yK a i) (yK (b.aT pr) (i'.aT pr)))) none
 | .n9 T i j, .n9 T' i' j' => cond (Nat.beq T T' && Nat.beq j j') (some (sB i (i'.aT pr))) none
 | .fZ, .n9 _ i' 0 => some [.e (J6 (i'.aT pr) (.il 0))]
 | .cB, .cB => some []
 | .map n, .map m => ifB (Nat.beq n (σ m))
 | .chan n, .chan m => ifB (Nat.beq n (σ m))
 | .mA, .mA => some []
 | .iJ, .iJ => some []
 | .fn (.func f) a c, .fn (.func g) b d => cond (Nat.beq f g) (xG (entCs a b) (entCs c d)) none
 | .dR, .dR => some []
 | .ei t x, .ei u y => cond (Nat.beq t u) (entC x y) none
 | .agg l, .agg m => entCs l m
 | .fk l, .fk m => entCs l m
 | _, _ => none
def entCs : List SV -> List SV -> Option (List Ob)
 | [], [] => some []
 | x :: l, y :: m => xG (entC x y) (entCs l m)
 | _, _ => none
end
end
theorem fP {a b : Option (List Ob)} {l : List Ob} (h : xG a b = some l) : ∃ x y, a = some x /\ b = some y /\ l = x ++ y := by
 unfold xG at h; split at h
 ·rename_i x y; injection h with h; exact ⟨x, y, rfl, rfl, h.symm⟩
 ·cases h
theorem vY {b : Bool} {l : List Ob} (h : ifB b = some l) : b = true /\ l = [] := by
 cases b with
 | true => injection h with h; exact ⟨rfl, h.symm⟩
 | false => cases h
theorem px {k k' : IntKind} (h : fo k k' = true) : k = k' := by cases k <;> cases k' <;> first | rfl | (simp [fo] at h)
section
variable {e e' : Env} {pr : Nat -> E} {cx : Nat -> Bool} {σ : Nat -> Nat}
mutual
theorem entC_ok (hn : c8 e e' pr cx) : ∀ {x y : SV} {l : List Ob}, entC pr cx σ x y = some l -> cM e l -> SV.aU e e' σ x y := by
 intro x y l h ht; cases y with
 | top => cases x <;> trivial
 | int k b =>
   cases x <;> simp only [entC] at h <;> try (cases h; done)
   rename_i k' a; cases hk : fo k' k with
   | false => rw [hk] at h; cases h
   | true =>
     rw [hk] at h; simp only [cond_true, Option.some.injEq] at h; subst h; exact ⟨px hk, by rw [gD ht, E.aP hn]⟩
 | bool b =>
   cases x <;> simp only [entC] at h <;> try (cases h; done)
   simp only [Option.some.injEq] at h; subst h; show _ = _; rw [Az ht, E.aP hn]
 | str b =>
   cases x <;> simp only [entC] at h <;> try (cases h; done)
   simp only [Option.some.injEq] at h; subst h; show _ = _; rw [G2 ht, E.aP hn]
 | B4 f => cases x <;> simp [entC] at h
 | val d b =>
   cases x with
   | val c a =>
     simp only [entC] at h; cases hb : (Nat.beq c d && cx c) with
     | false => rw [hb] at h; cases h
     | true =>
       rw [hb] at h; simp only [cond_true, Option.some.injEq] at h; subst h; rw [Bool.and_eq_true] at hb; obtain rfl := Nat.eq_of_beq_eq_true hb.1; show e.val c _ = e'.val c _; rw [hn.val c hb.2, gD ht, E.aP hn]
   | _ => simp [entC] at h
 | bQ ks b =>
   cases x <;> simp only [entC] at h <;> try (cases h; done)
   ·simp only [Option.some.injEq] at h; subst h; show (b.den e').T = []; rw [<- E.aP hn]; exact (iE ht).symm
   ·rename_i ks' a; cases hk : ks'.same ks with
    | false => rw [hk] at h; cases h
    | true =>
      rw [hk] at h; simp only [cond_true, Option.some.injEq] at h; subst h; refine ⟨aJ.ax hk, ?_⟩; rw [<- E.aP hn]; exact iE ht
   ·rename_i ks' a; cases hk : ks'.same ks with
    | false => rw [hk] at h; cases h
    | true =>
      rw [hk] at h; simp only [cond_true, Option.some.injEq] at h; subst h; refine ⟨aJ.ax hk, ?_⟩; rw [<- E.aP hn]; exact iE ht
 | iG ks b =>
   cases x <;> simp only [entC] at h <;> try (cases h; done)
   rename_i ks' a; cases hk : ks'.same ks with
   | false => rw [hk] at h; cases h
   | true =>
     rw [hk] at h; simp only [cond_true, Option.some.injEq] at h; subst h; refine ⟨aJ.ax hk, ?_⟩; rw [<- E.aP hn]; exact iE ht
 | dH ks b i' j' =>
   cases x <;> simp only [entC] at h <;> try (cases h; done)
   rename_i ks' a i j; cases hk : (ks'.same ks && Nat.beq j j') with
   | false => rw [hk] at h; cases h
   | true =>
     rw [hk] at h; simp only [cond_true, Option.some.injEq] at h; subst h; rw [Bool.and_eq_true] at hk; refine ⟨aJ.ax hk.1, Nat.eq_of_beq_eq_true hk.2, fun m => ?_⟩; have h1 := iE ht; have h2 : ((yK a i).den e).at 0 m = ((yK (b.aT pr) (i'.aT pr)).den e).at 0 m := by unfold Dv.at; rw [h1]
     rw [sN, sN, E.aP hn, E.aP hn] at h2; exact h2
 | n9 T' i' j' =>
   cases x with
   | fZ =>
     cases j' with
     | succ j => simp only [entC] at h; cases h
     | zero =>
       simp only [entC, Option.some.injEq] at h; subst h; have h1 : ((J6 (i'.aT pr) (.il 0)).den e).B = true := ht _ (List.mem_singleton.2 rfl); rw [u6, E.aP hn] at h1; exact ⟨rfl, h1⟩
   | n9 T i j =>
     simp only [entC] at h; cases hk : (Nat.beq T T' && Nat.beq j j') with
     | false => rw [hk] at h; cases h
     | true =>
       rw [hk] at h; simp only [cond_true, Option.some.injEq] at h; subst h; rw [Bool.and_eq_true] at hk; exact ⟨Nat.eq_of_beq_eq_true hk.1, Nat.eq_of_beq_eq_true hk.2, by rw [gD ht, E.aP hn]⟩
   | _ => simp only [entC] at h; cases h
 | fZ => cases x <;> simp [entC] at h <;> trivial
 | mw => cases x <;> simp [entC] at h <;> trivial
 | ptr m o =>
   cases x with
   | ptr n o2 =>
     cases o with
     | el _ _ _ => cases o2 <;> simp [entC] at h
     | c j' =>
       cases o2 with
       | el _ _ _ => simp [entC] at h
       | c j =>
         simp only [entC] at h; obtain ⟨hb, rfl⟩ := vY h; simp only [Bool.and_eq_true, Nat.beq_eq] at hb; exact ⟨hb.1, by show j = j'; exact hb.2⟩
   | _ => simp [entC] at h
 | bO => cases x <;> simp [entC] at h <;> trivial
 | sl m sz' lo' len' =>
   cases x with
   | sl n sz lo len =>
     simp only [entC] at h; cases hb : (Nat.beq n (σ m) && Nat.beq sz sz') with
     | false => rw [hb] at h; cases h
     | true =>
       rw [hb] at h; simp only [cond_true, Option.some.injEq] at h; subst h; simp only [Bool.and_eq_true, Nat.beq_eq] at hb; obtain ⟨t1, t2⟩ := aL.1 ht; exact ⟨hb.1, hb.2, by rw [gD t1, E.aP hn], by rw [gD t2, E.aP hn]⟩
   | _ => simp [entC] at h
 | cB => cases x <;> simp [entC] at h <;> trivial
 | map m =>
   cases x with
   | map n =>
     simp only [entC] at h; obtain ⟨hb, rfl⟩ := vY h; exact Nat.eq_of_beq_eq_true hb
   | _ => simp [entC] at h
 | chan m =>
   cases x with
   | chan n =>
     simp only [entC] at h; obtain ⟨hb, rfl⟩ := vY h; exact Nat.eq_of_beq_eq_true hb
   | _ => simp [entC] at h
 | mA => cases x <;> simp [entC] at h <;> trivial
 | iJ => cases x <;> simp [entC] at h <;> trivial
 | fn g b d =>
   cases x with
   | fn f a c =>
     cases f <;> cases g <;> simp only [entC] at h <;> try (cases h; done)
     rename_i f g; cases hb : Nat.beq f g with
     | false => rw [hb] at h; cases h
     | true =>
       rw [hb] at h; obtain ⟨l1, l2, h1, h2, rfl⟩ := fP h; obtain ⟨t1, t2⟩ := aL.1 ht; exact ⟨by rw [Nat.eq_of_beq_eq_true hb], entCs_ok hn h1 t1, entCs_ok hn h2 t2⟩
   | _ => simp [entC] at h
 | dR => cases x <;> simp [entC] at h <;> trivial
 | ei u y =>
   cases x with
   | ei t x =>
     simp only [entC] at h; cases hb : Nat.beq t u with
     | false => rw [hb] at h; cases h
     | true => rw [hb] at h; exact ⟨Nat.eq_of_beq_eq_true hb, entC_ok hn h ht⟩
   | _ => simp [entC] at h
 | agg m => cases x <;> simp only [entC] at h <;> first | (cases h; done) | exact entCs_ok hn h ht
 | fk m => cases x <;> simp only [entC] at h <;> first | (cases h; done) | exact entCs_ok hn h ht
 | B5 u => cases x <;> simp [entC] at h
theorem entCs_ok (hn : c8 e e' pr cx) : ∀ {xs ys : List SV} {l : List Ob}, entCs pr cx σ xs ys = some l -> cM e l -> SV.ents e e' σ xs ys := by
 intro xs ys l h ht; cases xs with
 | nil => cases ys <;> simp only [entCs] at h <;> first | trivial | (cases h; done)
 | cons x xs =>
   cases ys with
   | nil => simp [entCs] at h
   | cons y ys =>
     simp only [entCs] at h; obtain ⟨l1, l2, h1, h2, rfl⟩ := fP h; obtain ⟨t1, t2⟩ := aL.1 ht; exact ⟨entC_ok hn h1 t1, entCs_ok hn h2 t2⟩
end
end
def ch.same : ch -> ch -> Bool
 | .int k c, .int k' d => fo k k' && Nat.beq c d
 | .bool c, .bool d => Nat.beq c d
 | .str c, .str d => Nat.beq c d
 | .val c, .val d => Nat.beq c d
 | .bQ ks c, .bQ ks' d => ks.same ks' && Nat.beq c d
 | _, _ => false
theorem ch.ax {a b : ch} (h : a.same b = true) : a = b := by
 cases a <;> cases b <;> simp only [ch.same, Bool.and_eq_true, Nat.beq_eq] at h <;> first
  | (obtain ⟨h1, h2⟩ := h; rw [px h1, h2]; done)
  | (obtain ⟨h1, h2⟩ := h; rw [aJ.ax h1, h2]; done)
  | (rw [h]; done)
  | (cases h; done)
def oD : List ch -> List ch -> Bool
 | [], [] => true
 | a :: l, b :: m => a.same b && oD l m
 | _, _ => false
theorem uw : ∀ {l m : List ch}, oD l m = true -> l = m
 | [], [], _ => rfl
 | [], _ :: _, h => by cases h
 | _ :: _, [], h => by cases h
 | a :: l, b :: m, h => by
   simp only [oD, Bool.and_eq_true] at h; rw [ch.ax h.1, uw h.2]
def ch.GX (pr : Nat -> E) (cx : Nat -> Bool) : ch -> ch -> Bool
 | .tc k x j, .tc k' y j' => k.same k' && x.same (y.aT pr) && Nat.beq j j'
 | .val c, .val d => Nat.beq c d && cx c
 | a, b => a.same b
def mJ (pr : Nat -> E) (cx : Nat -> Bool) : List ch -> List ch -> Bool
 | [], [] => true
 | a :: l, b :: m => a.GX pr cx b && mJ pr cx l m
 | _, _ => false
def kR : DK -> E -> SV -> Option (List Ob)
 | .int k, t, .int k' a => cond (fo k' k) (some (sB a t)) none
 | .bool, t, .bool a => some (Nw a t)
 | .str, t, .str a => some (Oy a t)
 | .sl ks, t, .bQ ks' a => cond (ks'.same ks) (some (s0 a t)) none
 | .sl ks, t, .bO => some (s0 (.il 0) t)
 | .fp ks, t, .dH ks' a i 0 => cond (ks'.same ks) (some (s0 (yK a i) t)) none
 | .ei ty k, t, .ei ty' x => cond (Nat.beq ty' ty) (kR k t x) none
 | .nilm, _, .cB => some []
 | .ap T, t, .n9 T' a 0 => cond (Nat.beq T' T) (some (sB a t)) none
 | .ap _, t, .fZ => some [.e (J6 t (.il 0))]
 | _, _, _ => none
def HV (pr : Nat -> E) : ch -> SV -> E -> Option (List Ob)
 | .int k c, x, ix => kR (.int k) (.fn c ix) x
 | .bool c, x, ix => kR .bool (.fn c ix) x
 | .str c, x, ix => kR .str (.fn c ix) x
 | .bQ ks c, x, ix => kR (.sl ks) (.fn c ix) x
 | .tc k e j, x, ix => kR k (.o2 (.cell j) (e.aT pr) ix) x
 | .val _, _, _ => none
def xF (pr : Nat -> E) : List ch -> List SV -> E -> Option (List Ob)
 | [], _, _ => some []
 | c :: cs, x :: xs, ix => xG (HV pr c x ix) (xF pr cs xs ix)
 | _ :: _, [], _ => none
def u5 (pr : Nat -> E) (cols : List ch) (len : E) : Nat -> List (List SV) -> Option (List Ob)
 | _, [] => some []
 | k, t :: r => xG (xF pr cols t (Ad len (.il (k : Nat)))) (u5 pr cols len (k + 1) r)
def jf : E -> Bool
 | .il 0 => true
 | _ => false
def kG (cx : Nat -> Bool) : List ch -> Bool
 | [] => true
 | .val c :: r => cx c && kG cx r
 | .tc _ _ _ :: _ => false
 | _ :: r => kG cx r
def mh.pri (pr : Nat -> E) : mh -> mh
 | .c j => .c j
 | .el i sz j => .el (i.aT pr) sz j
mutual
def SV.qe (τ : Nat -> Nat) (pr : Nat -> E) : SV -> SV
 | .int k e => .int k (e.aT pr)
 | .bool e => .bool (e.aT pr)
 | .str e => .str (e.aT pr)
 | .val c i => .val c (i.aT pr)
 | .ptr n o => .ptr (τ n) (o.pri pr)
 | .sl n sz lo len => .sl (τ n) sz (lo.aT pr) (len.aT pr)
 | .bQ ks e => .bQ ks (e.aT pr)
 | .iG ks e => .iG ks (e.aT pr)
 | .dH ks e i j => .dH ks (e.aT pr) (i.aT pr) j
 | .n9 T i j => .n9 T (i.aT pr) j
 | .map n => .map (τ n)
 | .chan n => .chan (τ n)
 | .fn f a c => .fn f (SV.rens τ pr a) (SV.rens τ pr c)
 | .ei t x => .ei t (SV.qe τ pr x)
 | .agg l => .agg (SV.rens τ pr l)
 | .fk l => .fk (SV.rens τ pr l)
 | x => x
def SV.rens (τ : Nat -> Nat) (pr : Nat -> E) : List SV -> List SV
 | [] => []
 | x :: l => SV.qe τ pr x :: SV.rens τ pr l
end
def KV.qe (τ : Nat -> Nat) (pr : Nat -> E) : KV -> KV
 | .no => .no
 | .yes x => .yes (x.qe τ pr)
 | .may b x => .may (b.aT pr) (x.qe τ pr)
def om (τ : Nat -> Nat) (pr : Nat -> E) (l : List (SV × KV)) : List (SV × KV) := l.map fun x => (x.1.qe τ pr, x.2.qe τ pr)
mutual
def SV.noval : SV -> Bool
 | .val _ _ => false
 | .agg l => SV.novals l
 | _ => true
def SV.novals : List SV -> Bool
 | [] => true
 | x :: l => SV.noval x && SV.novals l
end
mutual
theorem SV.fl_ren {e e' : Env} {pr : Nat -> E} {cx : Nat -> Bool} {τ : Nat -> Nat} (hn : c8 e e' pr cx) : ∀ {x : SV}, x.noval = true -> SV.fl e (x.qe τ pr) = SV.fl e' x
 | .int .., _ => by simp only [SV.qe, SV.fl, E.aP hn]
 | .bool .., _ => by simp only [SV.qe, SV.fl, E.aP hn]
 | .str .., _ => by simp only [SV.qe, SV.fl, E.aP hn]
 | .val .., h => by cases h
 | .fZ, _ => rfl
 | .bO, _ => rfl
 | .dR, _ => rfl
 | .agg l, h => by simp only [SV.qe, SV.fl, SV.fls_ren hn (l := l) h]
 | .B4 .., _ => rfl
 | .ptr .., _ => rfl
 | .mw, _ => rfl
 | .n9 .., _ => rfl
 | .sl .., _ => rfl
 | .bQ .., _ => rfl
 | .iG .., _ => rfl
 | .dH .., _ => rfl
 | .cB, _ => rfl
 | .map .., _ => rfl
 | .chan .., _ => rfl
 | .mA, _ => rfl
 | .iJ, _ => rfl
 | .fn .., _ => rfl
 | .ei .., _ => rfl
 | .fk .., _ => rfl
 | .top, _ => rfl
 | .B5 .., _ => rfl
theorem SV.fls_ren {e e' : Env} {pr : Nat -> E} {cx : Nat -> Bool} {τ : Nat -> Nat} (hn : c8 e e' pr cx) : ∀ {l : List SV}, SV.novals l = true -> SV.fls e (SV.rens τ pr l) = SV.fls e' l
 | [], _ => rfl
 | x :: l, h => by
   simp only [SV.novals, Bool.and_eq_true] at h; simp only [SV.rens, SV.fls, SV.fl_ren hn h.1, SV.fls_ren hn h.2]
end
def eS : List (SV × KV) -> Bool
 | [] => true
 | (k, .no) :: r => k.noval && eS r
 | (k, .yes x) :: r => k.noval && x.noval && eS r
 | (k, .may _ x) :: r => k.noval && x.noval && eS r
theorem vp {e e' : Env} {pr : Nat -> E} {cx : Nat -> Bool} {τ : Nat -> Nat} (hn : c8 e e' pr cx) : ∀ {l : List (SV × KV)}, eS l = true -> CH e (om τ pr l) = CH e' l
 | [], _ => rfl
 | (k, x) :: l, h => by
   have e1 : CH e (om τ pr ((k, x) :: l)) = (match SV.fl e (k.qe τ pr), NO e (x.qe τ pr), CH e (om τ pr l) with | some a, some b, some r => some ((a, b) :: r) | _, _, _ => none) := rfl
   have e2 : CH e' ((k, x) :: l) = (match SV.fl e' k, NO e' x, CH e' l with | some a, some b, some r => some ((a, b) :: r) | _, _, _ => none) := rfl
   rw [e1, e2]; cases x with
   | no => simp only [eS, Bool.and_eq_true] at h; rw [SV.fl_ren hn h.1, vp hn h.2]; rfl
   | yes x => simp only [eS, Bool.and_eq_true] at h; simp only [KV.qe, NO, SV.fl_ren hn h.1.1, SV.fl_ren hn h.1.2, vp hn h.2]
   | may b x => simp only [eS, Bool.and_eq_true] at h; simp only [KV.qe, NO, SV.fl_ren hn h.1.1, SV.fl_ren hn h.1.2, vp hn h.2, E.aP hn]
def Lq (kk : KK) (m : Nat) (ix : E) (known : List (SV × KV)) (m' : Nat) (ix' : E) (known' : List (SV × KV)) : List Ob :=
 cond (known.isEmpty && known'.isEmpty && Nat.beq m m' && ix.same ix') [] [.mp kk m ix known m' ix' known']
theorem Ld {e : Env} {kk : KK} {m m' : Nat} {ix ix' : E} {known known' : List (SV × KV)} (h : cM e (Lq kk m ix known m' ix' known')) : (Ob.mp kk m ix known m' ix' known').den e := by
 unfold Lq at h; cases hb : (known.isEmpty && known'.isEmpty && Nat.beq m m' && ix.same ix') with
 | false => rw [hb] at h; exact h _ (List.mem_singleton.2 rfl)
 | true =>
   simp only [Bool.and_eq_true] at hb; obtain ⟨⟨⟨h1, h1'⟩, h2⟩, h3⟩ := hb; have h1 : known = [] := by simpa using h1
   have h1' : known' = [] := by simpa using h1'
   subst h1; subst h1'; rw [Nat.eq_of_beq_eq_true h2, E.ax h3]; exact ⟨[], [], rfl, rfl, fun k _ => rfl⟩
theorem we {cx : Nat -> Bool} {c : Nat} : ∀ {l : List ch}, kG cx l = true -> ch.val c ∈ l -> cx c = true
 | [], _, h => by cases h
 | bY :: r, ho, h => by
   rcases List.mem_cons.1 h with e | h
   ·subst e; simp only [kG, Bool.and_eq_true] at ho; exact ho.1
   ·refine we (l := r) ?_ h; cases bY <;> simp only [kG, Bool.and_eq_true] at ho <;> first | exact ho.2 | exact ho | (cases ho; done)
theorem yQ {cx : Nat -> Bool} {k : DK} {x : E} {j : Nat} : ∀ {l : List ch}, kG cx l = true -> ¬ ch.tc k x j ∈ l
 | [], _, h => by cases h
 | bY :: r, ho, h => by
   rcases List.mem_cons.1 h with e | h
   ·subst e; simp only [kG] at ho; cases ho
   ·refine yQ (cx := cx) (l := r) ?_ h; cases bY <;> simp only [kG, Bool.and_eq_true] at ho <;> first | exact ho.2 | exact ho | (cases ho; done)
theorem Od {e e' : Env} {pr : Nat -> E} {cx : Nat -> Bool} {σ : Nat -> Nat} (hn : c8 e e' pr cx) {l : List ch} (ho : kG cx l = true) {bY : ch} (hm : bY ∈ l) (i : Int) : SV.aU e e' σ (bY.at (.il i)) (bY.at (.il i)) := by
 cases bY with
 | int k c => exact ⟨rfl, by simp only [E.den, hn.fn]⟩
 | bool c => show _ = _; simp only [E.den, hn.fn]
 | str c => show _ = _; simp only [E.den, hn.fn]
 | val c => show e.val c _ = e'.val c _; rw [hn.val c (we ho hm)]; rfl
 | bQ ks c => exact ⟨rfl, by simp only [E.den, hn.fn]⟩
 | tc k x j => exact absurd hm (yQ ho)
theorem pW {e e' : Env} {σ : Nat -> Nat} {x y : E} (h : x.den e = y.den e') : ∀ {k : DK}, SV.aU e e' σ (gE k x) (gE k y)
 | .int _ => ⟨rfl, by rw [h]⟩
 | .bool => by show _ = _; rw [h]
 | .str => by show _ = _; rw [h]
 | .sl _ => ⟨rfl, by rw [h]⟩
 | .fp _ => ⟨rfl, rfl, fun m => by rw [h]; rfl⟩
 | .ei _ k => ⟨rfl, pW h (k := k)⟩
 | .nilm => trivial
 | .ap _ => ⟨rfl, rfl, by rw [h]⟩
theorem KR {e e' : Env} {pr : Nat -> E} {cx : Nat -> Bool} {σ : Nat -> Nat} (hn : c8 e e' pr cx) {a b : ch} (h : a.GX pr cx b = true) (i : Int) : SV.aU e e' σ (a.at (.il i)) (b.at (.il i)) := by
 have main : ∀ {a b : ch}, a.same b = true -> (∀ c, a ≠ .val c) -> SV.aU e e' σ (a.at (.il i)) (b.at (.il i)) := by
  intro a b h hv; have := ch.ax h; subst this; cases a with
  | int k c => exact ⟨rfl, by simp only [E.den, hn.fn]⟩
  | bool c => show _ = _; simp only [E.den, hn.fn]
  | str c => show _ = _; simp only [E.den, hn.fn]
  | val c => exact absurd rfl (hv c)
  | bQ ks c => exact ⟨rfl, by simp only [E.den, hn.fn]⟩
  | tc k x j => simp only [ch.same] at h; cases h
 unfold ch.GX at h; split at h
 ·simp only [Bool.and_eq_true] at h; rw [DK.ax h.1.1, Nat.eq_of_beq_eq_true h.2]; simp only [ch.at]; refine pW ?_; rw [E.ax h.1.2]; simp only [E.den, E.aP hn]
 ·rw [Bool.and_eq_true] at h; rw [Nat.eq_of_beq_eq_true h.1] at *; show e.val _ _ = e'.val _ _; rw [hn.val _ h.2]; rfl
 ·rename_i hnt hnv
  exact main h fun c hc => by
   subst hc; cases b <;> simp only [ch.same] at h <;> first | (cases h; done) | skip
   exact hnv _ _ rfl rfl
theorem qu {pr : Nat -> E} {cx : Nat -> Bool} : ∀ {l m : List ch} {j : Nat} {b : ch}, mJ pr cx l m = true -> m[j]? = some b -> ∃ a, l[j]? = some a /\ a.GX pr cx b = true
 | [], [], j, b, _, h => by simp at h
 | [], _ :: _, _, _, h, _ => by cases h
 | _ :: _, [], _, _, h, _ => by cases h
 | a :: l, b :: m, j, c, h, hj => by
   simp only [mJ, Bool.and_eq_true] at h; cases j with
   | zero => simp at hj; subst hj; exact ⟨a, rfl, h.1⟩
   | succ j => obtain ⟨x, h1, h2⟩ := qu h.2 (by simpa using hj); exact ⟨x, by simpa using h1, h2⟩
section
variable {e e' : Env} {pr : Nat -> E} {cx : Nat -> Bool} {σ : Nat -> Nat}
theorem mz {k : DK} {t y : E} {x : SV} {l : List Ob} (h : kR k t x = some l) (ht : cM e l) (hy : t.den e = y.den e') : SV.aU e e' σ x (gE k y) := by
 cases k with
 | fp ks =>
   cases x with
   | dH ks' a i j =>
     cases j with
     | succ j => cases h
     | zero =>
       simp only [kR] at h; cases hk : ks'.same ks with
       | false => rw [hk] at h; cases h
       | true =>
         rw [hk] at h; simp only [cond_true, Option.some.injEq] at h; subst h; refine ⟨aJ.ax hk, rfl, fun m => ?_⟩; have h1 := iE ht; have h2 : ((yK a i).den e).at 0 m = (t.den e).at 0 m := by unfold Dv.at; rw [h1]
         rw [sN, hy] at h2; exact h2
   | _ => cases h
 | ei ty k =>
   cases x with
   | ei ty' x =>
     simp only [kR] at h; cases hk : Nat.beq ty' ty with
     | false => rw [hk] at h; cases h
     | true =>
       rw [hk] at h; exact ⟨Nat.eq_of_beq_eq_true hk, mz (k := k) h ht hy⟩
   | _ => cases h
 | nilm =>
   cases x with
   | cB => trivial
   | _ => cases h
 | ap T =>
   cases x with
   | fZ =>
     simp only [kR, Option.some.injEq] at h; subst h; have h1 : ((J6 t (.il 0)).den e).B = true := ht _ (List.mem_singleton.2 rfl); rw [u6, hy] at h1; exact ⟨rfl, h1⟩
   | n9 T' a j =>
     cases j with
     | succ j => cases h
     | zero =>
       simp only [kR] at h; cases hk : Nat.beq T' T with
       | false => rw [hk] at h; cases h
       | true =>
         rw [hk] at h; simp only [cond_true, Option.some.injEq] at h; subst h; exact ⟨Nat.eq_of_beq_eq_true hk, rfl, by rw [gD ht, hy]⟩
   | _ => cases h
 | int k =>
   cases x <;> simp only [kR] at h <;> try (cases h; done)
   rename_i k' a; cases hk : fo k' k with
   | false => rw [hk] at h; cases h
   | true =>
     rw [hk] at h; simp only [cond_true, Option.some.injEq] at h; subst h; refine ⟨px hk, ?_⟩; rw [gD ht, hy]
 | bool =>
   cases x <;> simp only [kR] at h <;> try (cases h; done)
   simp only [Option.some.injEq] at h; subst h; show _ = _; rw [Az ht, hy]
 | str =>
   cases x <;> simp only [kR] at h <;> try (cases h; done)
   simp only [Option.some.injEq] at h; subst h; show _ = _; rw [G2 ht, hy]
 | sl ks =>
   cases x <;> simp only [kR] at h <;> try (cases h; done)
   ·simp only [Option.some.injEq] at h; subst h; show (y.den e').T = []; rw [<- hy, <- iE ht]; rfl
   ·rename_i ks' a; cases hk : ks'.same ks with
    | false => rw [hk] at h; cases h
    | true =>
      rw [hk] at h; simp only [cond_true, Option.some.injEq] at h; subst h; exact ⟨aJ.ax hk, by rw [iE ht, hy]⟩
theorem Fw (hn : c8 e e' pr cx) {c : ch} {x : SV} {ix : E} {z : Int} (hz : (ix.den e).I = z) {l : List Ob} (h : HV pr c x ix = some l) (ht : cM e l) : SV.aU e e' σ x (c.at (.il z)) := by
 have hfn : ∀ c, (E.fn c ix).den e = (E.fn c (.il z)).den e' := fun c => by simp only [E.den, hz, hn.fn]; rfl
 cases c with
 | int k c => exact mz (k := .int k) h ht (hfn c)
 | bool c => exact mz (k := .bool) h ht (hfn c)
 | str c => exact mz (k := .str) h ht (hfn c)
 | bQ ks c => exact mz (k := .sl ks) h ht (hfn c)
 | tc k y j =>
   refine mz h ht ?_; simp only [E.den, E.aP hn, O2.den, hz]; rfl
 | val c => cases h
theorem y7 (hn : c8 e e' pr cx) {ix : E} {z : Int} (hz : (ix.den e).I = z) : ∀ {cols : List ch} {t : List SV} {l : List Ob}, xF pr cols t ix = some l -> cM e l ->
    ∀ (j : Nat) (bY : ch), cols[j]? = some bY -> ∃ x, t[j]? = some x /\ SV.aU e e' σ x (bY.at (.il z))
 | [], t, l, _, _, j, bY, hj => by simp at hj
 | c :: cs, [], l, h, _, _, _, _ => by simp [xF] at h
 | c :: cs, x :: xs, l, h, ht, j, bY, hj => by
   simp only [xF] at h; obtain ⟨l1, l2, h1, h2, rfl⟩ := fP h; obtain ⟨t1, t2⟩ := aL.1 ht; cases j with
   | zero =>
     simp at hj; subst hj; exact ⟨x, rfl, Fw hn hz h1 t1⟩
   | succ j =>
     obtain ⟨y, hy, hent⟩ := y7 hn hz h2 t2 j bY (by simpa using hj)
     exact ⟨y, by simpa using hy, hent⟩
theorem wx (hn : c8 e e' pr cx) {cols : List ch} {len : E} : ∀ {tail : List (List SV)} {k0 : Nat} {l : List Ob}, u5 pr cols len k0 tail = some l -> cM e l ->
    ∀ (j : Nat) (bY : ch), cols[j]? = some bY -> ∀ (k : Nat) (t : List SV), tail[k]? = some t -> ∃ x, t[j]? = some x /\ SV.aU e e' σ x (bY.at (.il ((len.den e).I + (k0 + k : Nat))))
 | [], k0, l, _, _, j, bY, hj, k, t, hk => by simp at hk
 | u :: r, k0, l, h, ht, j, bY, hj, k, t, hk => by
   simp only [u5] at h; obtain ⟨l1, l2, h1, h2, rfl⟩ := fP h; obtain ⟨t1, t2⟩ := aL.1 ht; cases k with
   | zero =>
     simp at hk; subst hk; exact y7 hn (z := (len.den e).I + (k0 + 0 : Nat)) (by rw [jH]; rfl) h1 t1 j bY hj
   | succ k =>
     have := wx hn h2 t2 j bY hj k t (by simpa using hk)
     rw [show k0 + 1 + k = k0 + (k + 1) by omega] at this
     exact this
end
def agj (P : Program) (T : TypeId) : Option aJ := (iI P 10 T).bind qk
def wW (ks : aJ) (len : E) (cols : List ch) : Option (E × List Ob) :=
 match Hp cols with
 | some e => cond (jW ks e 0 cols) (some (cond (len.same (gk .ab e)) (e, []) (.o2 .cJ e len, [.e (ln (.il 0) len), .e (ln len (gk .ab e))]))) none
 | none => cond (cols.isEmpty && jf len) (some (.il 0, [])) none
section
variable {env : Env} {ρ : ah}
theorem Dh {ks : aJ} {len e : E} {cols : List ch} {obs : List Ob} {base : Nat -> Option Value} (h : wW ks len cols = some (e, obs)) (ht : cM env obs) (hk : 0 < ks.len)
    (hb : ∀ (i : Nat), i < (len.den env).I.toNat -> ∀ (j : Nat) (bY : ch), cols[j]? = some bY -> ∃ v, base (i * ks.len + j) = some v /\ (bY.at (.il i)).Rel env ρ v) :
    (len.den env).I = (e.den env).T.length /\ ∀ i, i < (e.den env).T.length -> ks.Rel ρ.fz (fun j => (e.den env).at i j) (fun j => base (i * ks.len + j)) 0 := by
 unfold wW at h; split at h
 ·rename_i x hx; cases hp : jW ks x 0 cols with
  | false => rw [hp] at h; cases h
  | true =>
    rw [hp] at h; simp only [cond_true, Option.some.injEq] at h
    have row : ∀ i, i < (len.den env).I.toNat -> ks.Rel ρ.fz (fun j => (x.den env).at i j) (fun j => base (i * ks.len + j)) 0 := fun i hi =>
     (su (i := i) (f := fun j => base (i * ks.len + j)) hp fun m bY hm => by
      obtain ⟨v, h1, h2⟩ := hb i hi m bY hm
      exact ⟨v, by show base (i * ks.len + (0 + m)) = _; rw [Nat.zero_add]; exact h1, h2⟩).1
    cases hs : len.same (gk .ab x) with
    | true =>
      rw [hs] at h; simp only [cond_true, Prod.mk.injEq] at h; obtain ⟨rfl, rfl⟩ := h; have hlen : (len.den env).I = (x.den env).T.length := by rw [E.ax hs, bA]; rfl
      exact ⟨hlen, fun i hi => row i (by omega)⟩
    | false =>
      rw [hs] at h; simp only [cond_false, Prod.mk.injEq] at h; obtain ⟨rfl, rfl⟩ := h; have h0 : ((ln (.il 0) len).den env).B = true := ht _ (List.mem_cons_self ..); have h1 : ((ln len (gk .ab x)).den env).B = true := ht _ (List.mem_cons_of_mem _ (List.mem_cons_self ..)); rw [cq] at h0 h1; rw [bA] at h1; have h0 : (0 : Int) <= (len.den env).I := h0; have h1 : (len.den env).I <= ((x.den env).T.length : Int) := h1; have hT : ((E.o2 .cJ x len).den env).T = (x.den env).T.take (len.den env).I.toNat := rfl; have hTl : ((E.o2 .cJ x len).den env).T.length = (len.den env).I.toNat := by rw [hT, List.length_take]; omega
      refine ⟨by rw [hTl]; omega, fun i hi => ?_⟩
      rw [hTl] at hi
      have e1 : (fun j => ((E.o2 .cJ x len).den env).at i j) = fun j => (x.den env).at i j := by
       funext j
       unfold Dv.at; rw [hT, List.getElem?_take_of_lt hi]
      rw [e1]; exact row i hi
 ·cases hc : (cols.isEmpty && jf len) with
  | false => rw [hc] at h; cases h
  | true =>
    rw [hc] at h; simp only [cond_true, Option.some.injEq, Prod.mk.injEq] at h; obtain ⟨rfl, rfl⟩ := h; rw [Bool.and_eq_true] at hc
    have h0 : (len.den env).I = 0 := by
     have := hc.2; unfold jf at this; split at this
     ·rfl
     ·cases this
    exact ⟨by rw [h0]; rfl, fun i hi => absurd hi (Nat.not_lt_zero i)⟩
end
def SY : List ch -> Option aJ
 | [] => some .nil
 | .tc k _ _ :: r => (SY r).map (.cons k)
 | _ :: _ => none
def FU (pr : Nat -> E) (len : E) (cols : List ch) (tail : List (List SV)) (sz : Nat) (len' : E) (cols' : List ch) : Option (List Ob) :=
 match Hp cols', SY cols' with
 | some x, some ks =>
   cond (jW ks x 0 cols' && len'.same (gk .ab x) && Nat.beq ks.len sz && Nat.blt 0 sz)
    (match wW ks len cols, oW ks tail with
    | some (b, obs), some t => some (obs ++ [.t (bC b t) (x.aT pr)])
    | _, _ => none) none
 | _, _ => none
theorem tE {e : E} : ∀ {ks : aJ} {j m : Nat} {cols : List ch} {bY : ch}, jW ks e j cols = true -> cols[m]? = some bY -> ∃ k, ks.get m = some k /\ bY = .tc k e (j + m)
 | .nil, j, m, [], _, _, hm => by simp at hm
 | .nil, _, _, _ :: _, _, h, _ => by cases h
 | .cons _ _, _, _, [], _, h, _ => by cases h
 | .cons k r, j, m, c :: cs, bY, h, hm => by
   cases c with
   | tc k' e' j' =>
     simp only [jW, Bool.and_eq_true] at h; obtain ⟨⟨⟨h1, h2⟩, h3⟩, h4⟩ := h; cases m with
     | zero =>
       simp only [List.getElem?_cons_zero, Option.some.injEq] at hm; subst hm; exact ⟨k, rfl, by rw [<- DK.ax h1, <- E.ax h2, <- Nat.eq_of_beq_eq_true h3]; rfl⟩
     | succ m =>
       obtain ⟨k2, g1, g2⟩ := tE h4 (by simpa using hm)
       exact ⟨k2, g1, by rw [g2, show j + 1 + m = j + (m + 1) by omega]⟩
   | _ => cases h
theorem zw {e : E} : ∀ {ks : aJ} {j : Nat} {cols : List ch}, jW ks e j cols = true -> cols.length = ks.len
 | .nil, j, [], _ => rfl
 | .nil, _, _ :: _, h => by cases h
 | .cons _ _, _, [], h => by cases h
 | .cons k r, j, c :: cs, h => by
   cases c with
   | tc k' e' j' =>
     simp only [jW, Bool.and_eq_true] at h; simp [aJ.len, zw h.2]
   | _ => cases h
section
variable {e e' : Env} {pr : Nat -> E} {cx : Nat -> Bool} {σ : Nat -> Nat}
theorem Ct : ∀ {k : DK} {x : SV} {a y : E}, jr k x = some a -> a.den e = y.den e' -> SV.aU e e' σ x (gE k y) := by
 intro k x a y h hy; cases k with
 | int k =>
   cases x <;> simp only [jr] at h <;> try (cases h; done)
   rename_i k' a'; cases hk : fo k k' with
   | false => rw [hk] at h; cases h
   | true =>
     rw [hk] at h; simp only [cond_true, Option.some.injEq] at h; subst h; exact ⟨(px hk).symm, by rw [hy]⟩
 | bool => cases x <;> simp only [jr] at h <;> try (cases h; done)
           simp only [Option.some.injEq] at h; subst h; show _ = _; rw [hy]
 | str => cases x <;> simp only [jr] at h <;> try (cases h; done)
          simp only [Option.some.injEq] at h; subst h; show _ = _; rw [hy]
 | sl ks =>
   cases x <;> simp only [jr] at h <;> try (cases h; done)
   ·simp only [Option.some.injEq] at h; subst h; show (y.den e').T = []; rw [<- hy]; rfl
   ·rename_i ks' a'; cases hk : ks.same ks' with
    | false => rw [hk] at h; cases h
    | true =>
      rw [hk] at h; simp only [cond_true, Option.some.injEq] at h; subst h; exact ⟨(aJ.ax hk).symm, by rw [hy]⟩
   ·rename_i ks' a'; cases hk : ks.same ks' with
    | false => rw [hk] at h; cases h
    | true =>
      rw [hk] at h; simp only [cond_true, Option.some.injEq] at h; subst h; exact ⟨(aJ.ax hk).symm, by rw [hy]⟩
 | fp ks =>
   cases x with
   | dH ks' c i j =>
     cases j with
     | succ j => cases h
     | zero =>
       simp only [jr] at h; cases hk : ks.same ks' with
       | false => rw [hk] at h; cases h
       | true =>
         rw [hk] at h; simp only [cond_true, Option.some.injEq] at h; subst h; exact ⟨(aJ.ax hk).symm, rfl, fun m => by rw [<- sN, hy]; rfl⟩
   | _ => cases h
 | ei t k =>
   cases x with
   | ei t' x =>
     simp only [jr] at h; cases hk : Nat.beq t t' with
     | false => rw [hk] at h; cases h
     | true =>
       rw [hk] at h; exact ⟨(Nat.eq_of_beq_eq_true hk).symm, Ct (k := k) h hy⟩
   | _ => cases h
 | nilm =>
   cases x with
   | cB => trivial
   | _ => cases h
 | ap T =>
   cases x with
   | fZ =>
     simp only [jr, Option.some.injEq] at h; subst h; refine ⟨rfl, ?_⟩; rw [<- hy]; show (-1 : Int) < 0; decide
   | n9 T' c j =>
     cases j with
     | succ j => cases h
     | zero =>
       simp only [jr] at h; cases hk : Nat.beq T T' with
       | false => rw [hk] at h; cases h
       | true =>
         rw [hk] at h; simp only [cond_true, Option.some.injEq] at h; subst h; exact ⟨(Nat.eq_of_beq_eq_true hk).symm, rfl, by rw [hy]⟩
   | _ => cases h
theorem CA : ∀ {ks : aJ} {t : List SV} {a : E}, AS ks t = some a -> t.length = ks.len /\ (0 < ks.len -> (a.den e).T.length = 1) /\ ∀ (j : Nat) (k : DK), ks.get j = some k -> ∃ x y, t[j]? = some x /\ jr k x = some y /\ ((a.den e).T.head?.getD [])[j]? = some (y.den e)
 | .nil, [], a, h => by
   simp only [AS, Option.some.injEq] at h; exact ⟨rfl, fun h => absurd h (Nat.lt_irrefl 0), fun j k hk => by simp [aJ.get] at hk⟩
 | .nil, _ :: _, _, h => by cases h
 | .cons _ _, [], _, h => by cases h
 | .cons k r, x :: xs, a, h => by
   simp only [AS] at h; split at h
   ·rename_i b c h1 h2; injection h with h; subst h; obtain ⟨g1, _, g2⟩ := CA h2; refine ⟨by simp [aJ.len, g1], fun _ => rfl, fun j k' hk => ?_⟩
    cases j with
    | zero =>
      simp only [aJ.get, Option.some.injEq] at hk; subst hk; exact ⟨x, b, rfl, h1, rfl⟩
    | succ j =>
      simp only [aJ.get] at hk; obtain ⟨x', y, a1, a2, a3⟩ := g2 j k' hk; exact ⟨x', y, by simpa using a1, a2, a3⟩
   ·cases h
theorem yT {ks : aJ} (h0 : 0 < ks.len) : ∀ {tail : List (List SV)} {a : E}, oW ks tail = some a -> (a.den e).T.length = tail.length /\ ∀ (m : Nat) (t : List SV), tail[m]? = some t -> ∀ (j : Nat) (k : DK), ks.get j = some k -> ∃ x y, t[j]? = some x /\ jr k x = some y /\ y.den e = (a.den e).at m j
 | [], a, h => by
   simp only [oW, Option.some.injEq] at h; subst h; exact ⟨rfl, fun m t hm => by simp at hm⟩
 | t :: r, a, h => by
   simp only [oW] at h; split at h
   ·rename_i b c h1 h2; injection h with h; subst h; obtain ⟨_, g1, g2⟩ := CA (e := e) h1; obtain ⟨k1, k2⟩ := yT h0 h2; have hb := g1 h0
    obtain ⟨l, hl⟩ : ∃ l, (b.den e).T = [l] := by
     match hq : (b.den e).T, hb with
     | [l], _ => exact ⟨l, rfl⟩
    have hT : ((bC b c).den e).T = l :: (c.den e).T := by rw [m7, hl]; rfl
    refine ⟨by rw [hT, List.length_cons, k1, List.length_cons], fun m u hm j k hk => ?_⟩
    cases m with
    | zero =>
      simp only [List.getElem?_cons_zero, Option.some.injEq] at hm; subst hm; obtain ⟨x, y, a1, a2, a3⟩ := g2 j k hk; refine ⟨x, y, a1, a2, ?_⟩; unfold Dv.at; rw [hT]; rw [hl] at a3; show y.den e = (l[j]?).getD (.i 0); have a3 : l[j]? = some (y.den e) := a3; rw [a3]; rfl
    | succ m =>
      obtain ⟨x, y, a1, a2, a3⟩ := k2 m u (by simpa using hm) j k hk
      refine ⟨x, y, a1, a2, ?_⟩; rw [a3]; unfold Dv.at; rw [hT]; rfl
   ·cases h
theorem Js {ks : aJ} {len b : E} {cols : List ch} {obs : List Ob} (h : wW ks len cols = some (b, obs)) (ht : cM e obs) :
    (len.den e).I = (b.den e).T.length /\ ∀ i, i < (b.den e).T.length -> ∀ (j : Nat) (k : DK), ks.get j = some k -> ∃ x, cols[j]? = some (.tc k x j) /\ (x.den e).at i j = (b.den e).at i j := by
 have get2 : ∀ {x : E} {j : Nat} {k : DK}, jW ks x 0 cols = true -> ks.get j = some k -> cols[j]? = some (.tc k x j) := by
  intro x j k hp hk
  have cV : j < cols.length := by
   rw [zw hp]
   have : ∀ {ks : aJ} {j : Nat} {k : DK}, ks.get j = some k -> j < ks.len := by
    intro ks
    induction ks using aJ.rec (motive_1 := fun _ => True) with
    | nil => intro j k h; simp [aJ.get] at h
    | cons k0 r _ ih =>
      intro j k h; cases j with
      | zero => exact Nat.succ_pos _
      | succ j => simp only [aJ.get] at h; have := ih h; simp only [aJ.len]; omega
    | _ => trivial
   exact this hk
  obtain ⟨k', g1, g2⟩ := tE (m := j) hp (List.getElem?_eq_getElem cV); rw [hk] at g1; injection g1 with g1; subst g1; rw [List.getElem?_eq_getElem cV, g2, Nat.zero_add]
 unfold wW at h; split at h
 ·rename_i x hx; cases hp : jW ks x 0 cols with
  | false => rw [hp] at h; cases h
  | true =>
    rw [hp] at h; simp only [cond_true, Option.some.injEq] at h; cases hs : len.same (gk .ab x) with
    | true =>
      rw [hs] at h; simp only [cond_true, Prod.mk.injEq] at h; obtain ⟨rfl, rfl⟩ := h; exact ⟨by rw [E.ax hs, bA]; rfl, fun i hi j k hk => ⟨x, get2 hp hk, rfl⟩⟩
    | false =>
      rw [hs] at h; simp only [cond_false, Prod.mk.injEq] at h; obtain ⟨rfl, rfl⟩ := h; have h0 : ((ln (.il 0) len).den e).B = true := ht _ (List.mem_cons_self ..); have h1 : ((ln len (gk .ab x)).den e).B = true := ht _ (List.mem_cons_of_mem _ (List.mem_cons_self ..)); rw [cq] at h0 h1; rw [bA] at h1; have h0 : (0 : Int) <= (len.den e).I := h0; have h1 : (len.den e).I <= ((x.den e).T.length : Int) := h1; have hT : ((E.o2 .cJ x len).den e).T = (x.den e).T.take (len.den e).I.toNat := rfl; have hTl : ((E.o2 .cJ x len).den e).T.length = (len.den e).I.toNat := by rw [hT, List.length_take]; omega
      refine ⟨by rw [hTl]; omega, fun i hi j k hk => ⟨x, get2 hp hk, ?_⟩⟩
      rw [hTl] at hi; unfold Dv.at; rw [hT, List.getElem?_take_of_lt hi]
 ·cases hc : (cols.isEmpty && jf len) with
  | false => rw [hc] at h; cases h
  | true =>
    rw [hc] at h; simp only [cond_true, Option.some.injEq, Prod.mk.injEq] at h; obtain ⟨rfl, rfl⟩ := h; rw [Bool.and_eq_true] at hc
    have h0 : (len.den e).I = 0 := by
     have := hc.2; unfold jf at this; split at this
     ·rfl
     ·cases this
    exact ⟨by rw [h0]; rfl, fun i hi => absurd hi (Nat.not_lt_zero i)⟩
theorem H5 (hn : c8 e e' pr cx) {T sz : Nat} {len len' : E} {cols cols' : List ch} {tail : List (List SV)} {l : List Ob} (h : FU pr len cols tail sz len' cols' = some l) (ht : cM e l) (hle : cols'.length <= sz) :
    aD.aU e e' σ (.row T sz len cols tail) (.row T sz len' cols' []) := by
 unfold FU at h; split at h
 ·rename_i x ks hx hks; cases hc : (jW ks x 0 cols' && len'.same (gk .ab x) && Nat.beq ks.len sz && Nat.blt 0 sz) with
  | false => rw [hc] at h; cases h
  | true =>
    rw [hc] at h; simp only [cond_true] at h; simp only [Bool.and_eq_true, Nat.beq_eq] at hc; obtain ⟨⟨⟨hp, hlen⟩, hsz⟩, hpos⟩ := hc; unfold Nat.blt at hpos; have hpos : 0 < ks.len := by rw [hsz]; exact Nat.le_of_ble_eq_true hpos
    split at h
    ·rename_i b obs t hb htl; injection h with h; subst h; obtain ⟨t1, t2⟩ := aL.1 ht; obtain ⟨b1, b2⟩ := Js hb t1; obtain ⟨c1, c2⟩ := yT (e := e) hpos htl
     have hT : (x.den e').T = (b.den e).T ++ (t.den e).T := by
      have h2 : ((bC b t).den e).T = ((x.aT pr).den e).T := t2 _ (List.mem_cons_self ..); rw [E.aP hn, m7] at h2; exact h2.symm
     have hL : (len'.den e').I = (len.den e).I + tail.length := by
      have e1 : (len'.den e').I = ((x.den e').T.length : Int) := by rw [E.ax hlen, bA]; rfl
      rw [e1, hT, List.length_append, c1, b1]; omega
     refine ⟨rfl, rfl, rfl, by rw [b1]; omega, hL, hle, fun j col' hj => ?_⟩
     obtain ⟨k, k1, k2⟩ := tE hp hj; rw [Nat.zero_add] at k2; subst k2; refine ⟨fun i hi => ?_, fun m u hm => ?_⟩
     ·obtain ⟨y, y1, y2⟩ := b2 i (by omega) j k k1
      refine ⟨_, y1, ?_⟩; simp only [ch.at]; refine pW ?_; show (y.den e).at (i : Int).toNat j = (x.den e').at (i : Int).toNat j; rw [Int.toNat_natCast, y2]; unfold Dv.at; rw [hT, List.getElem?_append_left (by omega)]
     ·obtain ⟨x1, y, a1, a2, a3⟩ := c2 m u hm j k k1; refine ⟨x1, a1, ?_⟩; simp only [ch.at]; refine Ct a2 ?_; show y.den e = (x.den e').at ((len.den e).I + (m : Int)).toNat j; rw [a3, b1]; have e2 : (((b.den e).T.length : Int) + (m : Int)).toNat = (b.den e).T.length + m := by omega
      rw [e2]; unfold Dv.at; rw [hT, List.getElem?_append_right (by omega), Nat.add_sub_cancel_left]
    ·cases h
 ·cases h
end
def Gq : List ch -> E
 | .tc _ a _ :: _ => a
 | _ => .il 0
def qE : aJ -> E -> Nat -> List ch -> Bool
 | .nil, _, _, [] => true
 | .cons k r, a, j, .tc k' b i :: l => k.same k' && b.same a && Nat.beq i j && qE r a (j + 1) l
 | _, _, _, _ => false
theorem zS : ∀ {ks : aJ} {a : E} {j : Nat} {l : List ch}, qE ks a j l = true -> l = b8 ks a j
 | .nil, _, _, [], _ => rfl
 | .nil, _, _, _ :: _, h => by simp [qE] at h
 | .cons _ _, _, _, [], h => by simp [qE] at h
 | .cons k r, a, j, c :: l, h => by
   cases c <;> simp only [qE, Bool.false_eq_true] at h; simp only [Bool.and_eq_true, Nat.beq_eq] at h; obtain ⟨⟨⟨h1, h2⟩, h3⟩, h4⟩ := h; rw [<- DK.ax h1, E.ax h2, h3, zS h4]; rfl
def Qg (pr : Nat -> E) (cx : Nat -> Bool) (σ : Nat -> Nat) (o o' : aD) : Option (List Ob) :=
 match o, o' with
 | .cells T cs, .cells T' cs' => cond (Nat.beq T T') (entCs pr cx σ cs cs') none
 | .row T sz len cols tail, .row T' sz' len' cols' [] =>
   cond (Nat.beq T T' && Nat.beq sz sz' && Nat.ble cols'.length sz)
    (cond (jf len || mJ pr cx cols cols')
     (xG (some (.e (.o2 .le (.il 0) len) :: sB (len'.aT pr) (Ad len (.il (tail.length : Nat))))) (u5 pr cols' len 0 tail))
     (FU pr len cols tail sz len' cols')) none
 | .rk sz len cols, .rk sz' len' cols' => cond (Nat.beq sz sz' && oD cols cols' && kG cx cols) (some (sB len (len'.aT pr))) none
 | .map m ix kk sz known, .map m' ix' kk' sz' known' => cond (dT kk kk' && eS known' && known'.all (fun p => lu kk p.1)) (some (sB sz (sz'.aT pr) ++ Lq kk m ix known m' (ix'.aT pr) (om σ pr known'))) none
 | .chan a, .chan b => some (Nw a (b.aT pr))
 | .ar T ks a, .ar T' ks' b => cond (Nat.beq T T' && ks.same ks') (some (s0 a (b.aT pr))) none
 | .lj kk ag ks a it, .lj kk' ag' ks' b it' => cond (dT kk kk' && (cond ag ag' (!ag')) && ks.same ks' && itC σ it it') (some (MC a (b.aT pr))) none
 | .rV T ks a, .rV T' ks' b => cond (Nat.beq T T' && ks.same ks') (some (MC a (b.aT pr))) none
 | .row T sz len cols [], .rV T' ks b => cond (Nat.beq T T' && Nat.beq sz ks.len && Nat.ble 1 sz && qE ks (Gq cols) 0 cols) (some (sB len (gk .ab (Gq cols)) ++ MC (Gq cols) (b.aT pr))) none
 | .oa m kk a, .oa m' kk' b => cond (dT kk kk' && Nat.beq m (σ m')) (some (s0 a (b.aT pr))) none
 | .map _ _ kk sz _, .lj kk' _ _ b it' => cond (dT kk kk' && it'.isNone) (some (sB sz (.il 0) ++ s0 (.il 0) (b.aT pr))) none
 | _, _ => none
section
variable {e e' : Env} {pr : Nat -> E} {cx : Nat -> Bool} {σ : Nat -> Nat}
theorem HJ (hn : c8 e e' pr cx) {o o' : aD} {l : List Ob} (h : Qg pr cx σ o o' = some l) (ht : cM e l) : jJ e e' σ o o' := by
 unfold Qg at h; split at h
 ·rename_i T cs T' cs'; cases hb : Nat.beq T T' with
  | false => rw [hb] at h; cases h
  | true => rw [hb] at h; exact ⟨rfl, Nat.eq_of_beq_eq_true hb, entCs_ok hn h ht⟩
 ·rename_i T sz len cols tail T' sz' len' cols'; cases hb : (Nat.beq T T' && Nat.beq sz sz' && Nat.ble cols'.length sz) with
  | false => rw [hb] at h; cases h
  | true =>
    rw [hb] at h; simp only [cond_true] at h; simp only [Bool.and_eq_true, Nat.beq_eq] at hb; obtain ⟨⟨hT, hsz⟩, hle⟩ := hb; cases hcols : (jf len || mJ pr cx cols cols') with
    | false =>
      rw [hcols] at h; exact ⟨rfl, by subst hT; subst hsz; exact H5 hn h ht (Nat.le_of_ble_eq_true hle)⟩
    | true =>
      rw [hcols] at h; simp only [cond_true] at h; obtain ⟨l1, l2, h1, h2, rfl⟩ := fP h; obtain ⟨t1, t2⟩ := aL.1 ht; injection h1 with h1; subst h1
      have h0 : 0 <= (len.den e).I := by
       have this : ((E.o2 .le (.il 0) len).den e).B = true := t1 _ (List.mem_cons_self ..); rw [A8] at this; exact of_decide_eq_true this
      have hl : (len'.den e').I = (len.den e).I + tail.length := by
       have := gD (fun x hx => t1 x (List.mem_cons_of_mem _ hx)); rw [E.aP hn, jH] at this; exact this
      refine ⟨rfl, hT, hsz, rfl, h0, hl, Nat.le_of_ble_eq_true hle, fun j col' hj => ⟨fun i hi => ?_, fun k t hk => ?_⟩⟩
      ·rw [Bool.or_eq_true] at hcols; rcases hcols with hz | hs
       ·have : (len.den e).I = 0 := by
          unfold jf at hz; split at hz
          ·rfl
          ·cases hz
        omega
       ·obtain ⟨bY, h1, h2⟩ := qu hs hj; exact ⟨bY, h1, KR hn h2 i⟩
      ·have := wx hn h2 t2 (σ := σ) j col' hj k t hk; rw [Nat.zero_add] at this; exact this
 ·rename_i sz len cols sz' len' cols'; cases hb : (Nat.beq sz sz' && oD cols cols' && kG cx cols) with
  | false => rw [hb] at h; cases h
  | true =>
    rw [hb] at h; simp only [cond_true, Option.some.injEq] at h; subst h; simp only [Bool.and_eq_true, Nat.beq_eq] at hb; exact ⟨hb.1.1, by rw [gD ht, E.aP hn], uw hb.1.2, fun bY hm i => Od hn hb.2 hm i⟩
 ·rename_i m ix kk sz known m' ix' kk' sz' known'; cases hb : (dT kk kk' && eS known' && known'.all (fun p => lu kk p.1)) with
  | false => rw [hb] at h; cases h
  | true =>
    rw [hb] at h; simp only [cond_true, Option.some.injEq] at h; subst h; simp only [Bool.and_eq_true] at hb; obtain ⟨⟨hb1, hb2⟩, hb3⟩ := hb; obtain ⟨t1, t2⟩ := aL.1 ht; obtain ⟨kv, kv', h1, h1', h2⟩ := Ld t2; rw [vp hn hb2] at h1'; refine ⟨rfl, c9 hb1, fun p hp => List.all_eq_true.1 hb3 p hp, by rw [gD t1, E.aP hn], kv, kv', h1, h1', fun k hk => ?_⟩
    rw [h2 k hk, E.aP hn]
    congr 1
    unfold res; split
    ·rfl
    ·rw [hn.mp]
 ·rename_i a b; simp only [Option.some.injEq] at h; subst h; exact ⟨rfl, by show _ = _; rw [Az ht, E.aP hn]⟩
 ·rename_i T ks a T' ks' b; cases hb : (Nat.beq T T' && ks.same ks') with
  | false => rw [hb] at h; cases h
  | true =>
    rw [hb] at h; simp only [cond_true, Option.some.injEq] at h; subst h; simp only [Bool.and_eq_true, Nat.beq_eq] at hb; exact ⟨hb.1, aJ.ax hb.2, by rw [<- E.aP hn]; exact iE ht⟩
 ·rename_i kk ag ks a it kk' ag' ks' b it'; cases hb : (dT kk kk' && (cond ag ag' (!ag')) && ks.same ks' && itC σ it it') with
  | false => rw [hb] at h; cases h
  | true =>
    rw [hb] at h; simp only [cond_true, Option.some.injEq] at h; subst h; simp only [Bool.and_eq_true] at hb; refine ⟨rfl, c9 hb.1.1.1, ?_, aJ.ax hb.1.2, by rw [<- E.aP hn]; exact AT ht, Wc hb.2⟩
    have := hb.1.1.2; cases ag <;> cases ag' <;> first | rfl | cases this
 ·rename_i T ks a T' ks' b; cases hb : (Nat.beq T T' && ks.same ks') with
  | false => rw [hb] at h; cases h
  | true =>
    rw [hb] at h; simp only [cond_true, Option.some.injEq] at h; subst h; simp only [Bool.and_eq_true, Nat.beq_eq] at hb; exact ⟨rfl, hb.1, aJ.ax hb.2, by rw [<- E.aP hn]; exact AT ht⟩
 ·rename_i T sz len cols T' ks b; cases hb : (Nat.beq T T' && Nat.beq sz ks.len && Nat.ble 1 sz && qE ks (Gq cols) 0 cols) with
  | false => rw [hb] at h; cases h
  | true =>
    rw [hb] at h; simp only [cond_true, Option.some.injEq] at h; subst h; simp only [Bool.and_eq_true, Nat.beq_eq] at hb; obtain ⟨t1, t2⟩ := aL.1 ht; exact ⟨rfl, hb.1.1.1, hb.1.1.2, Nat.le_of_ble_eq_true hb.1.2, rfl, _, zS hb.2, by rw [gD t1, bA]; rfl, by rw [<- E.aP hn]; exact AT t2⟩
 ·rename_i m kk a m' kk' b; cases hb : (dT kk kk' && Nat.beq m (σ m')) with
  | false => rw [hb] at h; cases h
  | true =>
    rw [hb] at h; simp only [cond_true, Option.some.injEq] at h; subst h; rw [Bool.and_eq_true] at hb; exact ⟨rfl, Nat.eq_of_beq_eq_true hb.2, c9 hb.1, by rw [<- E.aP hn]; exact iE ht⟩
 ·rename_i m ix kk sz known kk' ag ks b it'; cases hb : (dT kk kk' && it'.isNone) with
  | false => rw [hb] at h; cases h
  | true =>
    rw [hb] at h; simp only [cond_true, Option.some.injEq] at h; subst h; obtain ⟨t1, t2⟩ := aL.1 ht; rw [Bool.and_eq_true] at hb; exact ⟨rfl, c9 hb.1, by rw [gD t1]; rfl, by rw [<- E.aP hn, <- iE t2]; rfl, by simpa using hb.2⟩
 ·cases h
end
def Tf : List ch -> Option aJ
 | [] => some .nil
 | .tc k _ _ :: r => match Tf r with | some ks => some (.cons k ks) | none => none
 | _ => none
def kM (sz : Nat) (len : E) (ks : aJ) (e : E) : aD := cond (Nat.blt 0 sz) (.rk sz len (b8 ks e 0)) .gone
def qR (kd : TypeId -> Option aJ) : aD -> Option (aJ × Nat × E × E × List Ob)
 | .row T sz len cols tail =>
   match kd T with
   | some ks => cond (Nat.beq ks.len sz && Nat.blt 0 sz)
     (match wW ks len cols, oW ks tail with
     | some (e, obs), some t => some (ks, sz, bC e t, iV len tail, obs)
     | _, _ => none) none
   | none => none
 | .cells T cs =>
   match kd T with
   | some ks =>
     match AS ks cs with
     | some e => some (ks, 0, e, .il 1, [])
     | none => none
   | none => none
 | .rk sz len cols =>
   match Tf cols with
   | some ks => cond (Nat.beq ks.len sz && Nat.blt 0 sz && Cl cols)
     (match wW ks len cols with
     | some (e, obs) => some (ks, sz, e, len, obs)
     | none => none) none
   | none => none
 | _ => none
section
variable {P : Program} {env : Env} {w0 : Anchor} {ρ ρ' : ah} {h : aM} {w : World}
def rj (env : Env) (ρ ρ' : ah) (n sz : Nat) (len : E) (ks : aJ) (e : E) : Prop :=
 (0 < sz -> ∀ v, (SV.sl n sz (.il 0) len).Rel env ρ v -> (SV.bQ ks e).Rel env ρ' v) /\ (sz = 0 -> ∀ j v, (SV.ptr n (.c j)).Rel env ρ v -> (SV.dH ks e (.il 0) j).Rel env ρ' v)
theorem MI {sz : Nat} {ks : aJ} {e len : E} {n : Nat} {p : Pl} (hpos : 0 < ks.len) (hp : ρ n = some p) (hL : (len.den env).I = ((e.den env).T.length : Int)) (hcap : (e.den env).T.length <= p.cap) (hpb : p.base = 0) (hpn : p.nil = false) (hsz : ks.len = sz)
    (hcore : ∀ i, i < (e.den env).T.length -> ks.Rel ρ.fz (fun j => (e.den env).at i j) (fun j => cu ρ.fz p.block (i * ks.len + j)) 0) : (kM sz len ks e).Rel env w0 ρ n w := by
 subst hsz; have hb : Nat.blt 0 ks.len = true := Nat.ble_eq_true_of_le hpos; unfold kM; rw [hb]; show (aD.rk ks.len len (b8 ks e 0)).Rel env w0 ρ n w; refine ⟨p, hp, by rw [hL]; omega, (fun h => by rw [hpn] at h; cases h), .inr ⟨?_, hpb, hpn, fun i hi j bY hc => ?_⟩⟩
 ·cases ks with
  | nil => exact absurd hpos (Nat.lt_irrefl 0)
  | cons k r => rfl
 ·rw [hL, Int.toNat_natCast] at hi; obtain ⟨k, h1, rfl⟩ := nw hc; obtain ⟨v, h2, h3⟩ := (hcore i hi).get h1; rw [Nat.zero_add] at h2 h3 ⊢; refine ⟨v, h2, ?_⟩; rw [ch.at, cQ]; exact h3
theorem yV {ks : aJ} {e len : E} {n sz : Nat} {p : Pl} (hpos : 0 < ks.len) (hp : ρ n = some p) (hL : (len.den env).I = ((e.den env).T.length : Int)) (hpb : p.base = 0) (hsz : ks.len = sz)
    (hcore : ∀ i, i < (e.den env).T.length -> ks.Rel ρ'.fz (fun j => (e.den env).at i j) (fun j => cu ρ'.fz p.block (i * ks.len + j)) 0) : rj env ρ ρ' n sz len ks e := by
 subst hsz; refine ⟨fun _ v hv => ?_, fun h0 => by omega⟩
 simp only [SV.Rel] at hv; obtain ⟨q, A, hq, rfl, hA1, hA2, hle2, _⟩ := hv; rw [hp] at hq; injection hq with hq; subst hq; rw [hL] at hle2 ⊢; have hz0 : ((E.il 0).den env).I.toNat = 0 := rfl; rw [hz0] at hle2 hA2 ⊢; have htn : ((e.den env).T.length : Int).toNat = (e.den env).T.length := Int.toNat_natCast _; rw [htn] at hle2 ⊢; simp only [SV.Rel, DK.Rel]; refine ⟨A, p.cap - 0, rfl, by omega, fun h0 => ?_⟩
 have hA := hA2 (by omega)
 rw [hpb, Nat.zero_mul, Nat.zero_add] at hA; exact ⟨p.block, 0, hA, fun i hi => by simpa only [Nat.zero_add] using hcore i hi⟩
theorem aE.qR {kd : TypeId -> Option aJ} (H : aE env w0 ρ h w) {n sz : Nat} {o : aD} {ks : aJ} {e len : E} {obs : List Ob} (hn : az h n = some o) (hf : Go.Sx.qR kd o = some (ks, sz, e, len, obs)) (ht : cM env obs) :
    ∃ ρ', ρ.le ρ' /\ ρ'.pl = ρ.pl /\ aE env w0 ρ' (bh h n .gone) w /\ rj env ρ ρ' n sz len ks e /\ (kM sz len ks e).Rel env w0 ρ' n w := by
 cases o with
 | row T sz' l cols tail =>
   simp only [Go.Sx.qR] at hf; split at hf
   ·rename_i ks' hks; cases hc : (Nat.beq ks'.len sz' && Nat.blt 0 sz') with
    | false => rw [hc] at hf; cases hf
    | true =>
      rw [hc] at hf; simp only [cond_true] at hf; split at hf
      ·rename_i e1 obs1 t h1 h2; simp only [Option.some.injEq, Prod.mk.injEq] at hf; obtain ⟨rfl, rfl, rfl, rfl, rfl⟩ := hf; simp only [Bool.and_eq_true, Nat.beq_eq] at hc; obtain ⟨hsz, hpos⟩ := hc; unfold Nat.blt at hpos; have hpos : 0 < sz' := Nat.le_of_ble_eq_true hpos; obtain ⟨p, vs, rest, hp, Og, hpb, hpn, hrow, hlen, hw⟩ := H.bj n _ hn; obtain ⟨base, tl, rfl, hb1, hb2, htl, hts, hcl⟩ := hrow; rw [<- hsz] at hb1 hb2 hts hlen hpos; obtain ⟨g1, g2⟩ := Dh (base := fun j => base[j]?) h1 ht hpos hb2; obtain ⟨k1, k2⟩ := w5 hpos h2 htl hts; obtain ⟨hle, HS⟩ := H.freeze hn rfl hp hw; have hT : ((bC e1 t).den env).T = (e1.den env).T ++ (t.den env).T := m7 _ _; have hTl : ((bC e1 t).den env).T.length = (e1.den env).T.length + tail.length := by rw [hT, List.length_append, k1]
       have hL : ((iV l tail).den env).I = (((bC e1 t).den env).T.length : Int) := by
        unfold iV; rw [jH, g1, hTl]; show _ + ((tail.length : Nat) : Int) = _; omega
       have hcore : ∀ i, i < ((bC e1 t).den env).T.length -> ks'.Rel (ρ.rf p.block (.cells (base ++ tl ++ rest).toArray T (0, 0))).fz (fun j => ((bC e1 t).den env).at i j) (fun j => cu (ρ.rf p.block (.cells (base ++ tl ++ rest).toArray T (0, 0))).fz p.block (0 + i * ks'.len + j)) 0 := by
        intro i hi
        have hcellV : ∀ j v, (base ++ tl)[j]? = some v -> cu (ρ.rf p.block (.cells (base ++ tl ++ rest).toArray T (0, 0))).fz p.block j = some v := by
         intro j v hj; show (match (if p.block = p.block then some (Obj.cells (base ++ tl ++ rest).toArray T (0, 0)) else ρ.fz p.block) with | some (.cells c _ _) => c[j]? | _ => none) = some v
         rw [if_pos rfl]; show (base ++ tl ++ rest).toArray[j]? = some v; rw [List.getElem?_toArray, List.getElem?_append_left (List.getElem?_eq_some_iff.1 hj).1]; exact hj
        by_cases hib : i < (e1.den env).T.length
        ·have e4 : (fun j => ((bC e1 t).den env).at i j) = fun j => (e1.den env).at i j := by
           funext j
           unfold Dv.at; rw [hT, List.getElem?_append_left hib]
         rw [e4]; refine aJ.Rel.mono hle.fz (fun j v hj => ?_) (g2 i hib); refine hcellV _ v ?_; rw [Nat.zero_add, List.getElem?_append_left (List.getElem?_eq_some_iff.1 hj).1]; exact hj
        ·obtain ⟨m, rfl⟩ : ∃ m, i = (e1.den env).T.length + m := ⟨i - (e1.den env).T.length, by omega⟩
         have e4 : (fun j => ((bC e1 t).den env).at ((e1.den env).T.length + m) j) = fun j => (t.den env).at m j := by
          funext j
          unfold Dv.at; rw [hT, List.getElem?_append_right (by omega), Nat.add_sub_cancel_left]
         rw [e4]; refine aJ.Rel.mono hle.fz (fun j v hj => ?_) (k2 m (by omega))
         refine hcellV _ v ?_; have hbl : base.length = (e1.den env).T.length * ks'.len := by rw [hb1, g1, Int.toNat_natCast]
         rw [Nat.zero_add, Nat.add_mul, List.getElem?_append_right (by rw [hbl]; omega), hbl]
         rw [show (e1.den env).T.length * ks'.len + m * ks'.len + j - (e1.den env).T.length * ks'.len = m * ks'.len + j by omega]
         exact hj
       have hcap : ((bC e1 t).den env).T.length <= p.cap := by
        have e9 : tl.length = tail.length * ks'.len := by rw [htl.length, dy hts]
        rw [List.length_append, List.length_append, hb1, e9, g1, Int.toNat_natCast, <- Nat.add_mul] at hlen; rw [hTl]; exact Nat.le_of_mul_le_mul_right (by omega) hpos
       have hcore' : ∀ i, i < ((bC e1 t).den env).T.length -> ks'.Rel (ρ.rf p.block (.cells (base ++ tl ++ rest).toArray T (0, 0))).fz (fun j => ((bC e1 t).den env).at i j) (fun j => cu (ρ.rf p.block (.cells (base ++ tl ++ rest).toArray T (0, 0))).fz p.block (i * ks'.len + j)) 0 := fun i hi => by
        have := hcore i hi; simpa only [Nat.zero_add] using this
       exact ⟨_, hle, rfl, HS, yV hpos hp hL hpb hsz hcore', MI hpos hp hL hcap hpb hpn hsz hcore'⟩
      ·cases hf
   ·cases hf
 | cells T cs =>
   simp only [Go.Sx.qR] at hf; split at hf
   ·rename_i ks' hks; split at hf
    ·rename_i e1 h1; simp only [Option.some.injEq, Prod.mk.injEq] at hf; obtain ⟨rfl, rfl, rfl, rfl, rfl⟩ := hf; obtain ⟨p, vs, hp, Og, hpb, hpn, hcs, hw⟩ := H.bj n _ hn; obtain ⟨hle, HS⟩ := H.freeze hn rfl hp hw; obtain ⟨r, hr1, _, hr3⟩ := BR h1 hcs; refine ⟨_, hle, rfl, HS, ⟨fun h0 => absurd h0 (Nat.lt_irrefl 0), fun _ j v hv => ?_⟩, trivial⟩; simp only [SV.Rel] at hv ⊢; obtain ⟨q, hq, rfl⟩ := hv; rw [hp] at hq; injection hq with hq; subst hq; refine ⟨p.block, p.base, rfl, ?_⟩
     have g := hr3 (fun j => (e1.den env).at 0 j) (fun j => vs[j]?) 0 (fun m => by
      rw [Nat.zero_add]; show (((e1.den env).T[0]?).getD [])[m]?.getD (.i 0) = _
      rw [<- List.head?_eq_getElem?, hr1]) (fun m _ => by rw [Nat.zero_add])
     refine aJ.Rel.mono hle.fz (fun j v hj => ?_) g; rw [hpb, Nat.zero_add]; show (match (if p.block = p.block then some (Obj.cells vs.toArray T (0, 0)) else ρ.fz p.block) with | some (.cells c _ _) => c[j]? | _ => none) = some v
     rw [if_pos rfl]; show vs.toArray[j]? = some v; rw [List.getElem?_toArray]; exact hj
    ·cases hf
   ·cases hf
 | rk sz' l cols =>
   simp only [Go.Sx.qR] at hf; split at hf
   ·rename_i ks' hks; cases hc : (Nat.beq ks'.len sz' && Nat.blt 0 sz' && Cl cols) with
    | false => rw [hc] at hf; cases hf
    | true =>
      rw [hc] at hf; simp only [cond_true] at hf; split at hf
      ·rename_i e1 obs1 h1; simp only [Option.some.injEq, Prod.mk.injEq] at hf; obtain ⟨rfl, rfl, rfl, rfl, rfl⟩ := hf; simp only [Bool.and_eq_true, Nat.beq_eq] at hc; obtain ⟨⟨hsz, hpos⟩, hT⟩ := hc; unfold Nat.blt at hpos; have hpos : 0 < sz' := Nat.le_of_ble_eq_true hpos; obtain ⟨p, hp, hcap, _, h4⟩ := H.bj n _ hn; rcases h4 with ⟨h5, _⟩ | ⟨_, hpb, hpn, h5⟩
       ·rw [hT] at h5; cases h5
       ·rw [<- hsz] at h5 hpos; obtain ⟨g1, g2⟩ := Dh (base := fun j => cu ρ.fz p.block j) h1 ht hpos h5; rw [g1, Int.toNat_natCast] at hcap; exact ⟨ρ, ah.le_refl ρ, rfl, H.BN hn, yV hpos hp g1 hpb hsz g2, MI hpos hp g1 hcap hpb hpn hsz g2⟩
      ·cases hf
   ·cases hf
 | _ => cases hf
end
structure NS where
 n : Nat
 sz : Nat
 len : E
 ks : aJ
 e : E
mutual
def SV.rf (F : NS) : SV -> SV
 | .sl m s lo l => cond (Nat.beq m F.n && Nat.beq s F.sz && lo.same (.il 0) && l.same F.len && Nat.blt 0 F.sz) (.bQ F.ks F.e) (.sl m s lo l)
 | .ptr m (.c j) => cond (Nat.beq m F.n && Nat.beq F.sz 0) (.dH F.ks F.e (.il 0) j) (.ptr m (.c j))
 | .agg l => .agg (SV.frzs F l)
 | .fk l => .fk (SV.frzs F l)
 | .ei t x => .ei t (SV.rf F x)
 | x => x
def SV.frzs (F : NS) : List SV -> List SV
 | [] => []
 | x :: l => SV.rf F x :: SV.frzs F l
end
theorem SV.jm {F : NS} : ∀ {l : List SV}, (SV.frzs F l).length = l.length
 | [] => rfl
 | x :: l => by simp [SV.frzs, SV.jm (l := l)]
theorem SV.ud {F : NS} : ∀ {l m : List SV}, SV.frzs F (l ++ m) = SV.frzs F l ++ SV.frzs F m
 | [], _ => rfl
 | x :: l, m => by simp [SV.frzs, SV.ud (l := l)]
theorem SV.sJ {F : NS} : ∀ {l : List (List SV)}, SV.frzs F l.flatten = (l.map (SV.frzs F)).flatten
 | [] => rfl
 | x :: l => by simp [SV.ud, SV.sJ (l := l)]
section
variable {env : Env} {ρ ρ' : ah} {F : NS}
mutual
theorem SV.vU (hle : ρ.le ρ') (hv : rj env ρ ρ' F.n F.sz F.len F.ks F.e) : ∀ {x : SV} {v : Value}, x.Rel env ρ v -> (x.rf F).Rel env ρ' v := by
 intro x v hx; cases x with
 | sl m s lo l =>
   unfold SV.rf; cases hc : (Nat.beq m F.n && Nat.beq s F.sz && lo.same (.il 0) && l.same F.len && Nat.blt 0 F.sz) with
   | false => exact hx.mono hle
   | true =>
     simp only [Bool.and_eq_true] at hc; obtain ⟨⟨⟨⟨h1, h2⟩, h3⟩, h4⟩, h5⟩ := hc; rw [Nat.eq_of_beq_eq_true h1, Nat.eq_of_beq_eq_true h2, E.ax h3, E.ax h4] at hx; exact hv.1 (Nat.le_of_ble_eq_true h5) v hx
 | ptr m o =>
   cases o with
   | el i sz j => exact hx.mono hle
   | c j =>
     unfold SV.rf; cases hc : (Nat.beq m F.n && Nat.beq F.sz 0) with
     | false => exact hx.mono hle
     | true =>
       rw [Bool.and_eq_true] at hc; rw [Nat.eq_of_beq_eq_true hc.1] at hx; exact hv.2 (Nat.eq_of_beq_eq_true hc.2) j v hx
 | agg l =>
   simp only [SV.rf, SV.Rel] at hx ⊢; obtain ⟨y, rfl, h⟩ := hx; exact ⟨y, rfl, SV.frzs_ok hle hv h⟩
 | fk l =>
   simp only [SV.rf, SV.Rel] at hx ⊢; obtain ⟨y, rfl, h⟩ := hx; exact ⟨y, rfl, SV.frzs_ok hle hv h⟩
 | ei t x =>
   simp only [SV.rf, SV.Rel] at hx ⊢; obtain ⟨y, rfl, h⟩ := hx; exact ⟨y, rfl, SV.vU hle hv h⟩
 | _ => exact hx.mono hle
theorem SV.frzs_ok (hle : ρ.le ρ') (hv : rj env ρ ρ' F.n F.sz F.len F.ks F.e) : ∀ {l : List SV} {vs : List Value}, SV.aF env ρ l vs -> SV.aF env ρ' (SV.frzs F l) vs := by
 intro l vs h; cases l with
 | nil => exact h
 | cons x l =>
   simp only [SV.frzs, SV.aF] at h ⊢; obtain ⟨v, q, rfl, h1, h2⟩ := h; exact ⟨v, q, rfl, SV.vU hle hv h1, SV.frzs_ok hle hv h2⟩
end
def aD.rf (F : NS) : aD -> aD
 | .cells T cs => .cells T (SV.frzs F cs)
 | .row T sz len cols tail => .row T sz len cols (tail.map (SV.frzs F))
 | o => o
theorem aD.zT {o : aD} : (o.rf F).owner = o.owner := by cases o <;> rfl
theorem aD.vU {w0 : Anchor} {w : World} {m : Nat} {o : aD} (hle : ρ.le ρ') (hpl : ρ'.pl = ρ.pl) (hv : rj env ρ ρ' F.n F.sz F.len F.ks F.e) (h : o.Rel env w0 ρ m w) : (o.rf F).Rel env w0 ρ' m w := by
 cases o with
 | cells T cs =>
   obtain ⟨p, vs, h1, h2, h3, h4, h5, h6⟩ := h; exact ⟨p, vs, hle _ _ h1, h2, h3, h4, SV.frzs_ok hle hv h5, h6⟩
 | row T sz len cols tail =>
   obtain ⟨p, vs, rest, h1, h2, h3, h4, ⟨b, t, k1, k2, k3, k4, k5, k6⟩, h6, h7⟩ := h; refine ⟨p, vs, rest, hle _ _ h1, h2, h3, h4, ⟨b, t, k1, k2, fun i hi j bY hj => ?_, ?_, fun u hu => ?_, k6⟩, h6, h7⟩
   ·obtain ⟨v, g1, g2⟩ := k3 i hi j bY hj; exact ⟨v, g1, g2.mono hle⟩
   ·rw [<- SV.sJ]; exact SV.frzs_ok hle hv k4
   ·obtain ⟨y, hy, rfl⟩ := List.mem_map.1 hu; rw [SV.jm]; exact k5 y hy
 | _ => exact h.cX hle (fun _ _ _ => rfl) (fun h0 _ => by rw [show ρ' m = ρ m from congrFun hpl m]; exact h0)
def nC (F : NS) (h : aR) : aR := h.map fun x => (x.1, cond (Nat.beq x.1 F.n) .gone (x.2.rf F))
theorem MK {h : aR} {m : Nat} {o : aD} (hm : bZ (nC F h) m = some o) : (m = F.n /\ o = .gone) \/ (m ≠ F.n /\ ∃ o0, bZ h m = some o0 /\ o = o0.rf F) := by
 induction h with
 | nil => cases hm
 | cons x r ih =>
   obtain ⟨k, y⟩ := x; simp only [nC, List.map_cons, bZ] at hm ⊢; cases hb : Nat.beq k m with
   | false => rw [hb] at hm; exact ih hm
   | true =>
     rw [hb] at hm; obtain rfl := Nat.eq_of_beq_eq_true hb; simp only [cond_true, Option.some.injEq] at hm; cases hk : Nat.beq k F.n with
     | true => rw [hk] at hm; exact .inl ⟨Nat.eq_of_beq_eq_true hk, hm.symm⟩
     | false =>
       rw [hk] at hm; exact .inr ⟨fun e => by (rw [e, Nat.beq_refl] at hk; cases hk), y, by simp, hm.symm⟩
theorem DG {F : NS} {h : aR} {m : Nat} {o : aD} (hm : bZ h m = some o) (hne : m ≠ F.n) : bZ (nC F h) m = some (o.rf F) := by
 induction h with
 | nil => cases hm
 | cons x r ih =>
   obtain ⟨k, y⟩ := x; simp only [nC, List.map_cons, bZ] at hm ⊢; cases hb : Nat.beq k m with
   | false => rw [hb] at hm; exact ih hm
   | true =>
     rw [hb] at hm; obtain rfl := Nat.eq_of_beq_eq_true hb; simp only [cond_true, Option.some.injEq] at hm ⊢; have : Nat.beq k F.n = false := by rw [Bool.eq_false_iff]; intro h; exact hne (Nat.eq_of_beq_eq_true h)
     rw [this, hm]; rfl
def bU.Vr (kd : TypeId -> Option aJ) (n : Nat) (q : bU) : Option (bU × List Ob) :=
 match bZ q.h n with
 | some o =>
   match qR kd o with
   | some (ks, sz, e, len, obs) => some ({ q with fr := ⟨SV.frzs ⟨n, sz, len, ks, e⟩ q.fr.sl, q.fr.df⟩, h := nC ⟨n, sz, len, ks, e⟩ q.h }, obs)
   | none => none
 | none => none
theorem bU.Rk {kd : TypeId -> Option aJ} {n : Nat} {q q' : bU} {obs : List Ob} (h : q.Vr kd n = some (q', obs)) (ht : cM env obs) : tC env q q' := by
 unfold bU.Vr at h; split at h
 ·rename_i o ho; split at h
  ·rename_i ks sz e len obs' hf; have hone : True := trivial; cases hone with
   | intro =>
     simp only [Option.some.injEq, Prod.mk.injEq] at h; obtain ⟨rfl, rfl⟩ := h; refine ⟨rfl, SV.jm, fun A ρ a w hs => ?_⟩; obtain ⟨ρ', hle, hpl, HS, hv, _⟩ := hs.hs.qR (n := n) ho hf ht; refine ⟨ρ', hle, ⟨?_, SV.frzs_ok hle hv hs.sl, hs.df.mono hle, fun m p hp => hs.nx m p (by rw [<- show ρ' m = ρ m from congrFun hpl m]; exact hp)⟩⟩
     have back : ∀ m o', az (bm (nC ⟨n, sz, len, ks, e⟩ q.h)) m = some o' -> (m = n /\ o' = .gone) \/ (m ≠ n /\ ∃ o0, az (bm q.h) m = some o0 /\ o' = o0.rf ⟨n, sz, len, ks, e⟩) := fun m o' hm => MK hm
     have back2 : ∀ m o', az (bm (nC ⟨n, sz, len, ks, e⟩ q.h)) m = some o' -> o'.owner = true -> ∃ o0, az (bh (bm q.h) n .gone) m = some o0 /\ o0.owner = true := fun m o' hm ho' => by
      rcases back m o' hm with ⟨_, rfl⟩ | ⟨hne, o0, h0, rfl⟩
      ·cases ho'
      ·refine ⟨o0, by rw [aj, if_neg hne]; exact h0, by rw [aD.zT] at ho'; exact ho'⟩
     refine ⟨HS.below, fun m o' hm => ?_, fun m k x y p p' hm hk hx hy hp hp' he => ?_, ?_, HS.fz.at_, fun b x m o' p hb hm ho' hp => ?_, HS.fz.iX⟩
     ·rcases back m o' hm with ⟨_, rfl⟩ | ⟨hne, o0, h0, rfl⟩
      ·trivial
      ·exact aD.vU hle hpl hv (hs.hs.bj m o0 h0)
     ·obtain ⟨x0, a1, a2⟩ := back2 m x hm hx; obtain ⟨y0, b1, b2⟩ := back2 k y hk hy; exact HS.inj m k x0 y0 p p' a1 b1 a2 b2 hp hp' he
     ·refine HS.ar.cX (Fz.le_refl _) rfl (fun m T ks' e' hm => ?_) (fun T ks' e' hm => ⟨ks', e', ?_⟩) (fun _ _ _ _ _ _ _ _ => rfl) (Nat.le_refl _) (fun _ h => h) rfl (fun m o' q' hm ho' hq => .inl ?_) (fun _ _ _ _ _ _ _ _ h => h)
      ·rcases back m _ hm with ⟨_, h0⟩ | ⟨hne, o0, h0, e1⟩
       ·cases h0
       ·rw [aj, if_neg hne, h0]; cases o0 <;> first | (rw [e1]; rfl) | (cases e1; done)
      ·rw [aj] at hm
       by_cases e1 : dL T = n
       ·rw [if_pos e1] at hm; cases hm
       ·rw [if_neg e1] at hm; exact DG (F := ⟨n, sz, len, ks, e⟩) hm e1
      ·obtain ⟨y0, b1, b2⟩ := back2 m o' hm ho'; exact ⟨m, y0, q', b1, b2, hq, rfl⟩
     ·obtain ⟨y0, b1, b2⟩ := back2 m o' hm ho'; exact HS.fz.free b x m y0 p hb b1 b2 hp
  ·cases h
 ·cases h
def MM : DK -> SV -> List Nat
 | .sl _, .sl n _ _ _ => [n]
 | .fp _, .ptr n (.c 0) => [n]
 | .ei _ k, .ei _ x => MM k x
 | _, _ => []
def Fc : aJ -> List SV -> List Nat
 | .cons k r, x :: l => MM k x ++ Fc r l
 | _, _ => []
def Wl (kd : TypeId -> Option aJ) : aD -> List Nat
 | .row T _ _ _ tail => match kd T with | some ks => (tail.map (Fc ks)).flatten | none => []
 | .cells T cs => match kd T with | some ks => Fc ks cs | none => []
 | _ => []
def lE (g : Nat -> bU -> Option (bU × List Ob)) : List Nat -> bU -> Option (bU × List Ob)
 | [], q => some (q, [])
 | n :: r, q =>
   match g n q with
   | some (q1, o1) =>
     match lE g r q1 with
     | some (q2, o2) => some (q2, o1 ++ o2)
     | none => none
   | none => none
theorem m9 {g : Nat -> bU -> Option (bU × List Ob)} (hg : ∀ n q q' obs, g n q = some (q', obs) -> cM env obs -> tC env q q') : ∀ {l : List Nat} {q q' : bU} {obs : List Ob}, lE g l q = some (q', obs) -> cM env obs -> tC env q q'
 | [], q, q', obs, h, _ => by simp only [lE, Option.some.injEq, Prod.mk.injEq] at h; obtain ⟨rfl, _⟩ := h; exact tC.refl q
 | n :: r, q, q', obs, h, ht => by
   simp only [lE] at h; split at h
   ·rename_i q1 o1 h1; split at h
    ·rename_i q2 o2 h2; simp only [Option.some.injEq, Prod.mk.injEq] at h; obtain ⟨rfl, rfl⟩ := h; obtain ⟨t1, t2⟩ := aL.1 ht; exact (hg n q q1 o1 h1 t1).trans (m9 hg h2 t2)
    ·cases h
   ·cases h
def bU.IH (kd : TypeId -> Option aJ) : Nat -> Nat -> bU -> Option (bU × List Ob)
 | 0, _, _ => none
 | d + 1, n, q =>
   match bZ q.h n with
   | some o =>
     match lE (bU.IH kd d) (Wl kd o) q with
     | some (q1, o1) =>
       match q1.Vr kd n with
       | some (q2, o2) => some (q2, o1 ++ o2)
       | none => none
     | none => none
   | none => none
theorem bU.BA {kd : TypeId -> Option aJ} : ∀ {d n : Nat} {q q' : bU} {obs : List Ob}, q.IH kd d n = some (q', obs) -> cM env obs -> tC env q q'
 | 0, _, _, _, _, h, _ => by cases h
 | d + 1, n, q, q', obs, h, ht => by
   simp only [bU.IH] at h; split at h
   ·split at h
    ·rename_i q1 o1 h1; split at h
     ·rename_i q2 o2 h2; simp only [Option.some.injEq, Prod.mk.injEq] at h; obtain ⟨rfl, rfl⟩ := h; obtain ⟨t1, t2⟩ := aL.1 ht; exact (m9 (fun n q q' obs => bU.BA) h1 t1).trans (bU.Rk h2 t2)
     ·cases h
    ·cases h
   ·cases h
end
mutual
def wantV : SV -> SV -> List Nat
 | .sl n _ _ _, .bQ _ _ => [n]
 | .ptr n (.c _), .dH _ _ _ _ => [n]
 | .agg l, .agg m => wantL l m
 | .fk l, .fk m => wantL l m
 | .ei _ x, .ei _ y => wantV x y
 | _, _ => []
def wantL : List SV -> List SV -> List Nat
 | x :: l, y :: m => wantV x y ++ wantL l m
 | _, _ => []
end
def HI : List SV -> List ch -> List Nat
 | .sl n _ _ _ :: l, .bQ _ _ :: m => n :: HI l m
 | x :: l, .tc k _ _ :: m => MM k x ++ HI l m
 | _ :: l, _ :: m => HI l m
 | _, _ => []
def RV (cols : List ch) : List (List SV) -> List Nat
 | [] => []
 | t :: r => HI t cols ++ RV cols r
def Tj : aD -> aD -> List Nat
 | .cells _ l, .cells _ m => wantL l m
 | .row _ _ _ _ tail, .row _ _ _ cols _ => RV cols tail
 | _, _ => []
def FG (sl : List SV) : List (Nat × SV) -> List Nat
 | [] => []
 | (j, y) :: r => (match nth sl j with | some x => wantV x y | none => []) ++ FG sl r
def Kn (σ : Nat -> Nat) (hL : aR) : aR -> List Nat
 | [] => []
 | (n, o') :: r => (match bZ hL (σ n) with | some o => Tj o o' | none => []) ++ Kn σ hL r
def o6 : List Nat -> List Nat
 | [] => []
 | n :: r => cond (qq n r) (o6 r) (n :: o6 r)
def bU.lG (kd : TypeId -> Option aJ) (q : bU) (ov : List (Nat × SV)) (hp : aR) (l : List (Nat × Nat)) : Option (bU × List Ob) :=
 lE (fun n q => q.IH kd 6 n) (o6 (FG q.fr.sl ov ++ Kn (sig l q.nx) q.h hp)) q
theorem bU.m3 {kd : TypeId -> Option aJ} {env : Env} {q q' : bU} {ov : List (Nat × SV)} {hp : aR} {l : List (Nat × Nat)} {obs : List Ob} (h : q.lG kd ov hp l = some (q', obs)) (ht : cM env obs) : tC env q q' :=
 m9 (fun n q q' obs => bU.BA) h ht
section
variable (pr : Nat -> E) (cx : Nat -> Bool) (σ : Nat -> Nat)
def xO (sl : List SV) : List (Nat × SV) -> Option (List Ob)
 | [] => some []
 | (j, y) :: r => match nth sl j with | some x => xG (entC pr cx σ x y) (xO sl r) | none => none
def AF (hL : aR) : aR -> Option (List Ob)
 | [] => some []
 | (n, o') :: r => match bZ hL (lZ σ o' n) with | some o => xG (Qg pr cx σ o o') (AF hL r) | none => none
end
section
variable {e e' : Env} {pr : Nat -> E} {cx : Nat -> Bool} {σ : Nat -> Nat}
theorem tx (hn : c8 e e' pr cx) {sl : List SV} : ∀ {ov : List (Nat × SV)} {l : List Ob}, xO pr cx σ sl ov = some l -> cM e l -> nK e e' σ sl ov
 | [], _, _, _ => trivial
 | (j, y) :: r, l, h, ht => by
   simp only [xO] at h; unfold nK; cases hx : nth sl j with
   | none => rw [hx] at h; cases h
   | some x =>
     rw [hx] at h; obtain ⟨l1, l2, h1, h2, rfl⟩ := fP h; obtain ⟨t1, t2⟩ := aL.1 ht; exact ⟨entC_ok hn h1 t1, tx hn h2 t2⟩
theorem zn (hn : c8 e e' pr cx) {hL : aR} : ∀ {hp : aR} {l : List Ob}, AF pr cx σ hL hp = some l -> cM e l -> vZ e e' σ hL hp
 | [], _, _, _ => trivial
 | (j, y) :: r, l, h, ht => by
   simp only [AF] at h; unfold vZ; cases hx : bZ hL (lZ σ y j) with
   | none => rw [hx] at h; cases h
   | some x =>
     rw [hx] at h; obtain ⟨l1, l2, h1, h2, rfl⟩ := fP h; obtain ⟨t1, t2⟩ := aL.1 ht; exact ⟨HJ hn h1 t1, zn hn h2 t2⟩
end
def stays (vB : Nat) (ex : List Nat) : Nat -> Nat -> List (Nat × SV)
 | _, 0 => []
 | j, n + 1 => cond (qq j ex) (stays vB ex (j + 1) n) ((j, .val (vB + j) (.il 0)) :: stays vB ex (j + 1) n)
def rM (js : List Nat) : List (Nat × SV) := js.map fun j => (j, .top)
def jO (vB N : Nat) (js : List Nat) (ov : List (Nat × SV)) : List (Nat × SV) := ov ++ (rM js ++ stays vB (js ++ ov.map (·.1)) 0 N)
theorem dt : ∀ {a b : List (Nat × SV)} {j : Nat}, ca (a ++ b) j = match ca a j with | some x => some x | none => ca b j
 | [], b, j => rfl
 | (i, x) :: r, b, j => by
   simp only [List.cons_append, ca]; cases hb : Nat.beq i j with
   | true => rfl
   | false => simp only [cond_false]; exact dt
theorem yo : ∀ {js : List Nat} {j : Nat} {x : SV}, ca (rM js) j = some x -> x = .top
 | [], j, x, h => by cases h
 | i :: r, j, x, h => by
   simp only [rM, List.map_cons, ca] at h; cases hb : Nat.beq i j with
   | true => rw [hb] at h; simp only [cond_true, Option.some.injEq] at h; exact h.symm
   | false => rw [hb] at h; exact yo (js := r) h
theorem lF {vB : Nat} {ex : List Nat} : ∀ {n j i : Nat} {x : SV}, ca (stays vB ex i n) j = some x -> x = .val (vB + j) (.il 0)
 | 0, j, i, x, h => by cases h
 | n + 1, j, i, x, h => by
   simp only [stays] at h; cases hx : qq i ex with
   | true => rw [hx] at h; exact lF (n := n) h
   | false =>
     rw [hx] at h; simp only [cond_false, ca] at h; cases hb : Nat.beq i j with
     | true => rw [hb] at h; obtain rfl := Nat.eq_of_beq_eq_true hb; simp only [cond_true, Option.some.injEq] at h; exact h.symm
     | false => rw [hb] at h; exact lF (n := n) h
theorem s5 : ∀ {l : List (Nat × SV)} {j : Nat}, j ∈ l.map (·.1) -> ∃ x, ca l j = some x
 | [], j, h => by simp at h
 | (i, x) :: r, j, h => by
   simp only [List.map_cons, List.mem_cons] at h; unfold ca; cases hb : Nat.beq i j with
   | true => exact ⟨x, rfl⟩
   | false =>
     rcases h with h | h
     ·subst h; simp at hb
     ·exact s5 h
theorem Iw {vB : Nat} {env : Env} {ρ : ah} {ov : List (Nat × SV)} {u0 u : Nat -> Value} {N : Nat} {js : List Nat} {vs : List Value} (h : SV.aF env ρ (eu ov u0 0 N) vs) (hu : ∀ j, j < N -> vs[j]? = some (u0 j)) (hv : ∀ j, j < N -> env.val (vB + j) 0 = u0 j)
    (huu : ∀ j, j < N -> u j = u0 j) : SV.aF env ρ (eu (jO vB N js ov) u 0 N) vs := by
 have hl : vs.length = N := by rw [h.length, eN]
 refine oS (by rw [hl, eN]) (fun j x v hx hv' => ?_)
 have hj : j < N := by
  have := (List.getElem?_eq_some_iff.1 hx).1; rw [eN] at this; exact this
 rw [kN N 0 j hj, Nat.zero_add] at hx; injection hx with hx; obtain ⟨v2, hv2, hr⟩ := DV h hj; rw [hv'] at hv2; injection hv2 with hv2; subst hv2; unfold jO at hx; rw [dt] at hx; cases ho : ca ov j with
 | some y => rw [ho] at hx hr; simp only at hx hr; subst hx; exact hr
 | none =>
   rw [ho] at hx hr; simp only at hx hr; rw [dt] at hx; cases ht : ca (rM js) j with
   | some y => rw [ht] at hx; simp only at hx; rw [yo ht] at hx; subst hx; trivial
   | none =>
     rw [ht] at hx; simp only at hx; cases hs : ca (stays vB (js ++ ov.map (·.1)) 0 N) j with
     | some y =>
       rw [hs] at hx; simp only at hx; rw [lF hs] at hx; subst hx; show v = env.val (vB + j) 0; rw [hv j hj, hr]
     | none =>
       rw [hs] at hx; simp only at hx; subst hx; show v = u j; rw [huu j hj, hr]
def j7 (pr : Nat -> E) (cx : Nat -> Bool) (q : bU) (H : Head) (l : List (Nat × Nat)) (fixed : List Nat) (iU : List (FuncId × List SV)) : Option (List Ob) :=
 cond (allDiff (l.map (·.2)) && l.all (fun x => Nat.blt x.1 H.m && Nat.blt x.2 q.nx) && xB q.fr.df iU && fixed.all (fun k => Nat.beq (sig l q.nx k) k) && DN q.h H.h)
  (xG (xO pr cx (sig l q.nx) q.fr.sl H.ov) (AF pr cx (sig l q.nx) q.h H.h)) none
theorem nk {e e' : Env} {pr : Nat -> E} {cx : Nat -> Bool} (hn : c8 e e' pr cx) {q : bU} {H : Head} {l : List (Nat × Nat)} {fixed : List Nat} {u : Nat -> Value} {es : List Ob} {iU : List (FuncId × List SV)} (hdv : ∀ ρ ρ' ds, eV e ρ iU ds -> eV e' ρ' iU ds) (h : j7 pr cx q H l fixed iU = some es) (ht : cM e es) : Hu e e' q H l [] fixed u iU := by
 unfold j7 at h; cases hc : (allDiff (l.map (·.2)) && l.all (fun x => Nat.blt x.1 H.m && Nat.blt x.2 q.nx) && xB q.fr.df iU && fixed.all (fun k => Nat.beq (sig l q.nx k) k) && DN q.h H.h) with
 | false => rw [hc] at h; cases h
 | true =>
   rw [hc] at h; simp only [cond_true] at h; obtain ⟨l1, l2, h1, h2, rfl⟩ := fP h; obtain ⟨t1, t2⟩ := aL.1 ht; simp only [Bool.and_eq_true] at hc; obtain ⟨⟨⟨⟨c1, c2⟩, c3⟩, c4⟩, c5⟩ := hc; exact ⟨tx hn h1 t1, zn hn h2 t2, c1, c2, y3 c3, hdv, fun j hj => (by cases hj), fun k hk => Nat.eq_of_beq_eq_true (List.all_eq_true.1 c4 k hk), c5⟩
def lz (vB N : Nat) (js : List Nat) (H : Head) : Head := ⟨jO vB N js H.ov, H.h, H.m, H.fs⟩
structure gz (H' H : Head) : Prop where
 ov : H'.ov = H.ov
 h : H'.h = H.h
 m : H'.m = H.m
theorem gz.refl (H : Head) : gz H H := ⟨rfl, rfl, rfl⟩
theorem gz.full {H' H : Head} (k : gz H' H) (vB N : Nat) (js : List Nat) : gz (lz vB N js H') (lz vB N js H) := ⟨by unfold lz; simp only; rw [k.ov], k.h, k.m⟩
theorem gz.turns {e e' : Env} {q : bU} {H H' : Head} {l : List (Nat × Nat)} {cX fixed : List Nat} {u : Nat -> Value} {iU : List (FuncId × List SV)} (k : gz H' H) (T : Hu e e' q H l cX fixed u iU) : Hu e e' q H' l cX fixed u iU :=
 ⟨by rw [k.ov]; exact T.ov, by rw [k.h]; exact T.hp, T.inj, by rw [k.m]; exact T.lt, T.df, T.dv, T.cX, T.fixed, by rw [k.h]; exact T.Jq⟩
def vS : eQ -> eQ -> Bool
 | .normal, .normal => true
 | .exit a, .exit b => Nat.beq a b
 | .ret, .ret => true
 | _, _ => false
theorem yU {a b : eQ} (h : vS a b = true) : a = b := by
 cases a <;> cases b <;> simp only [vS] at h <;> first
  | rfl
  | (cases h; done)
  | (rw [Nat.eq_of_beq_eq_true h]; done)
theorem wH {vB N : Nat} {js : List Nat} {ov : List (Nat × SV)} {j : Nat} (hj : j < N) : ∃ x, ca (jO vB N js ov) j = some x := by
 have hs : ∀ {ex : List Nat} {n i : Nat}, j ∉ ex -> i <= j -> j < i + n -> ∃ x, ca (stays vB ex i n) j = some x := by
  intro ex n
  induction n with
  | zero => intro i _ h1 h2; omega
  | succ n ih =>
    intro i hex h1 h2; simp only [stays]; cases hx : qq i ex with
    | true =>
      have : i ≠ j := fun e => hex (by rw [<- e]; exact cR.1 hx)
      exact ih hex (by omega) (by omega)
    | false =>
      simp only [cond_false, ca]; cases hb : Nat.beq i j with
      | true => exact ⟨_, rfl⟩
      | false =>
        have : i ≠ j := fun e => by subst e; simp at hb
        exact ih hex (by omega) (by omega)
 unfold jO; rw [dt]; cases ho : ca ov j with
 | some x => exact ⟨x, rfl⟩
 | none =>
   simp only; rw [dt]; cases ht : ca (rM js) j with
   | some x => exact ⟨x, rfl⟩
   | none =>
     refine hs (fun hm => ?_) (Nat.zero_le _) (by omega)
     rcases List.mem_append.1 hm with h1 | h1
     ·obtain ⟨x, hx⟩ := s5 (l := rM js) (j := j) (by simpa [rM] using h1)
      rw [hx] at ht; cases ht
     ·obtain ⟨x, hx⟩ := s5 h1; rw [hx] at ho; cases ho
theorem gG {vB N : Nat} {js : List Nat} {ov : List (Nat × SV)} (u u' : Nat -> Value) : eu (jO vB N js ov) u 0 N = eu (jO vB N js ov) u' 0 N := by
 apply List.ext_getElem?
 intro i
 by_cases hi : i < N
 ·rw [kN N 0 i hi, kN N 0 i hi, Nat.zero_add]; obtain ⟨x, hx⟩ := wH (vB := vB) (js := js) (ov := ov) hi; rw [hx]
 ·rw [List.getElem?_eq_none (by rw [eN]; omega), List.getElem?_eq_none (by rw [eN]; omega)]
def Jo (m n : Nat) (l : List (Nat × Nat)) : List (Nat × Nat) := cond (l.any fun x => Nat.beq x.1 m) l ((m, n) :: l)
mutual
def mtch : SV -> SV -> List (Nat × Nat) -> List (Nat × Nat)
 | .ptr n _, .ptr m _, l => Jo m n l
 | .sl n _ _ _, .sl m _ _ _, l => Jo m n l
 | .map n, .map m, l => Jo m n l
 | .chan n, .chan m, l => Jo m n l
 | .ei _ x, .ei _ y, l => mtch x y l
 | .agg a, .agg b, l => mtchs a b l
 | .fk a, .fk b, l => mtchs a b l
 | .fn _ a c, .fn _ b d, l => mtchs c d (mtchs a b l)
 | _, _, l => l
def mtchs : List SV -> List SV -> List (Nat × Nat) -> List (Nat × Nat)
 | x :: a, y :: b, l => mtchs a b (mtch x y l)
 | _, _, l => l
end
def ad0 : aD -> aD -> List (Nat × Nat) -> List (Nat × Nat)
 | .cells _ a, .cells _ b, l => mtchs a b l
 | .oa n _ _, .oa m _ _, l => Jo m n l
 | .lj _ _ _ _ (some n), .lj _ _ _ _ (some m), l => Jo m n l
 | _, _, l => l
def KO (sl : List SV) : List (Nat × SV) -> List (Nat × Nat) -> List (Nat × Nat)
 | [], l => l
 | (j, y) :: r, l => KO sl r (match nth sl j with | some x => mtch x y l | none => l)
def Tn (m : Nat) : List (Nat × Nat) -> Option Nat
 | [] => none
 | (a, b) :: r => cond (Nat.beq a m) (some b) (Tn m r)
def tY : aR -> List (Nat × Nat) -> Prog (List (Nat × Nat))
 | [], l => .ret l
 | (m, o') :: r, l =>
   match Tn m l with
   | none => tY r l
   | some n => .get n fun o => tY r (ad0 o o' l)
def Gy (sl : List SV) (H : Head) : Prog (List (Nat × Nat)) := do
 let l <- tY H.h (KO sl H.ov [])
 let l <- tY H.h l
 tY H.h l
def Mp (q : bU) (H : Head) : Option (List (Nat × Nat)) :=
 match (Gy q.fr.sl H).run [] q.h [] aH.nil with
 | .ok r => some r.a
 | .error _ => none
inductive MP where
 | ret (n : Nat)
 | fail
 | get (n : Nat) (k : aD -> MP)
def MP.prog : MP -> Prog Nat
 | .ret n => .ret n
 | .fail => .fail "no mode"
 | .get n k => .get n fun o => (k o).prog
def MP.at (h : aR) : MP -> Option Nat
 | .ret n => some n
 | .fail => none
 | .get n k => match bZ h n with | some o => (k o).at h | none => none
theorem MP.zL {env : Env} : ∀ {p : MP} {h h' : aM} {n : Nat}, p.prog.bz env h n h' -> h = h'
 | .ret _, _, _, _, he => he.2
 | .fail, _, _, _, he => he.elim
 | .get _ k, _, _, _, ⟨o, _, he⟩ => MP.zL he
def Df : List (TypeId × aJ) -> TypeId -> Option aJ
 | [], _ => none
 | (t, k) :: r, T => cond (Nat.beq t T) (some k) (Df r T)
structure ak where
 f : FuncId
 key : Nat
 N : Nat
 r : Nat
 base : Nat
 js : List Nat
 hd : Nat -> Head
 aU : Nat -> aa
 app : List SV -> Bool
 mS : Nat -> Bool
 dD : List SV -> MP
 ll : Nat -> Bool
 mf : Nat -> aa
 hx : Nat -> Head
 sQ : eQ -> List SV -> MP
 nU : Nat -> eQ
 bp : List (E × Nat)
 fixed : List Nat
 lt : E
 X : dg
 fuel : Nat
 np : Nat
 params : List Nat := []
 xR : List (TypeId × aJ) := []
 pins : List SV -> List (Nat × E) := fun _ => []
 aap : List (Nat × Nat) := []
 PF : List (Nat × Nat × Nat × List Nat) := []
 QL : List (FuncId × Nat) := []
namespace ak
def iU (D : ak) : List (FuncId × List SV) := I2 (D.base + 900) D.QL
theorem Aq (D : ak) {e e' : Env} {pr : Nat -> E} (hn : c8 e e' pr (fun _ => true)) (ρ ρ' : ah) (ds : List Deferred) (h : eV e ρ D.iU ds) : eV e' ρ' D.iU ds := vr (fun c i => hn.val c rfl i) h
def mode (D : ak) (sl : List SV) : Prog Nat := (D.dD sl).prog
theorem Y9 (D : ak) {env : Env} (sl : List SV) {h h' : aM} {n : Nat} (he : (D.mode sl).bz env h n h') : h = h' := MP.zL he
def cx (D : ak) (c : Nat) : Bool := Nat.blt c D.base || Nat.ble (D.base + 1000) c
def YP (D : ak) (n : Nat) : E := cond (Nat.beq n D.r) (.o2 .add (.v n) (.il 1)) (.v n)
def R3 (D : ak) (n : Nat) : E := cond (Nat.beq n D.r) (.il 0) (.v n)
def jM (fs : aa) : List Ob -> List Ob
 | [] => []
 | o :: r => match m6 fs o with
   | some true => jM fs r
   | _ => o :: jM fs r
theorem gM {env : Env} {fs : aa} (hf : fs.ay env) : ∀ {l : List Ob}, cM env (jM fs l) -> cM env l
 | [], _ => fun x hx => by cases hx
 | o :: r, h => by
   unfold jM at h; intro x hx; split at h
   ·rename_i hd; rcases List.mem_cons.1 hx with rfl | hx
    ·exact yi hf hd
    ·exact gM hf h x hx
   ·rcases List.mem_cons.1 hx with rfl | hx
    ·exact h _ (List.mem_cons_self ..)
    ·exact gM hf (fun y hy => h y (List.mem_cons_of_mem _ hy)) x hx
def env (D : ak) (e : Env) (u : Nat -> Value) (i : Nat) : Env where
 v n := if n = D.r then .i i else e.v n
 fn := e.fn
 val c z := if D.base <= c /\ c < D.base + 1000 then u (c - D.base) else e.val c z
 mp := e.mp
 uf := e.uf
theorem M6 (D : ak) (e : Env) (u : Nat -> Value) (i : Nat) : c8 (D.env e u i) (D.env e u (i + 1)) D.YP (fun _ => true) := by
 refine ⟨fun n => ?_, rfl, fun _ _ _ => rfl, rfl, rfl⟩; unfold YP; cases hb : Nat.beq n D.r with
 | true =>
   obtain rfl := Nat.eq_of_beq_eq_true hb; simp only [cond_true, E.den, O2.den, env, if_true, Dv.I]; rfl
 | false =>
   have : n ≠ D.r := fun e => by subst e; simp at hb
   simp only [cond_false, E.den, env, if_neg this]
theorem OQ {D : ak} {c : Nat} (h : D.cx c = true) : ¬ (D.base <= c /\ c < D.base + 1000) := by
 unfold cx at h; rw [Bool.or_eq_true] at h; rcases h with h | h
 ·unfold Nat.blt at h; have := Nat.le_of_ble_eq_true h; omega
 ·have := Nat.le_of_ble_eq_true h; omega
theorem L4 (D : ak) (e : Env) (u : Nat -> Value) (i : Nat) : c8 (D.env e u i) (D.env e u 0) D.R3 (fun _ => true) := by
 refine ⟨fun n => ?_, rfl, fun _ _ _ => rfl, rfl, rfl⟩; unfold R3; cases hb : Nat.beq n D.r with
 | true => obtain rfl := Nat.eq_of_beq_eq_true hb; simp only [cond_true, E.den, env, if_true]; rfl
 | false =>
   have : n ≠ D.r := fun e => by subst e; simp at hb
   simp only [cond_false, E.den, env, if_neg this]
def rm (θ : List (Nat × E)) (n : Nat) : E :=
 match θ with
 | [] => .v n
 | (p, a) :: r => cond (Nat.beq p n) a (rm r n)
def jV (e : Env) (θ : List (Nat × E)) : Env := { e with v := fun n => (rm θ n).den e }
theorem Fp {θ : List (Nat × E)} {n : Nat} (h : n ∉ θ.map (·.1)) : rm θ n = .v n := by
 induction θ with
 | nil => rfl
 | cons x r ih =>
   obtain ⟨p, a⟩ := x; simp only [List.map_cons, List.mem_cons, not_or] at h; unfold rm; have : Nat.beq p n = false := by rw [Bool.eq_false_iff]; intro he; exact h.1 (Nat.eq_of_beq_eq_true he).symm
   rw [this]; exact ih h.2
theorem Kx (e : Env) (θ : List (Nat × E)) : c8 e (jV e θ) (rm θ) (fun _ => true) := ⟨fun _ => rfl, rfl, fun _ _ _ => rfl, rfl, rfl⟩
theorem Tv (D : ak) {e : Env} {θ : List (Nat × E)} (hr : rm θ D.r = .il 0) (u : Nat -> Value) : c8 e (D.env (jV e θ) u 0) (rm θ) D.cx := by
 refine ⟨fun n => ?_, rfl, fun c hc z => ?_, rfl, rfl⟩
 ·simp only [env, jV]
  by_cases h : n = D.r
  ·subst h; rw [if_pos rfl, hr]; rfl
  ·rw [if_neg h]
 ·simp only [env, if_neg (OQ hc)]; rfl
def nA : aa -> List Ob
 | [] => []
 | (e, true) :: r => .e e :: nA r
 | (e, false) :: r => .e (l8 e) :: nA r
theorem kf {env : Env} : ∀ {fs : aa}, cM env (nA fs) -> fs.ay env
 | [], _ => gw
 | (e, true) :: r, h => aa.fg (h _ (List.mem_cons_self ..)) (kf fun x hx => h x (List.mem_cons_of_mem _ hx))
 | (e, false) :: r, h => aa.fg (by
     have : ((l8 e).den env).B = true := h _ (List.mem_cons_self ..); rw [iD] at this
     simpa using this) (kf fun x hx => h x (List.mem_cons_of_mem _ hx))
def ox (pr : Nat -> E) (fs : aa) : aa := fs.map fun x => (x.1.aT pr, x.2)
theorem kg {e e' : Env} {pr : Nat -> E} {cx : Nat -> Bool} (hn : c8 e e' pr cx) {fs : aa} (h : (ox pr fs).ay e) : fs.ay e' := fun x b hm => by
 have := h (x.aT pr) b (List.mem_map.2 ⟨(x, b), hm, rfl⟩); rw [E.aP hn] at this; exact this
def eD : List (E × Nat) -> Nat -> Option (List Ob)
 | [], _ => none
 | (c, ν) :: r, m => cond (Nat.beq ν m) (some (cond (c.same (.bl true)) [] [.e c])) ((eD r m).map fun l => .e (l8 c) :: l)
theorem lS {e e' : Env} {pr : Nat -> E} {cx : Nat -> Bool} (hn : c8 e e' pr cx) : ∀ {l : List (E × Nat)} {ν : Nat} {xs : List Ob}, eD (l.map fun x => (x.1.aT pr, x.2)) ν = some xs -> cM e xs -> ∃ ys, eD l ν = some ys /\ cM e' ys
 | [], _, _, h, _ => by cases h
 | (c, m) :: r, ν, xs, h, ht => by
   simp only [List.map_cons, eD] at h ⊢; cases hb : Nat.beq m ν with
   | true =>
     rw [hb] at h; simp only [cond_true, Option.some.injEq] at h; refine ⟨_, rfl, ?_⟩
     have hc : (c.den e').B = true := by
      rw [<- E.aP hn]; cases hs : (c.aT pr).same (.bl true) with
      | true => rw [E.ax hs]; rfl
      | false => rw [hs] at h; subst h; exact ht _ (List.mem_singleton.2 rfl)
     intro x hx; cases hs : c.same (.bl true) with
     | true => rw [hs] at hx; cases hx
     | false => rw [hs] at hx; rw [List.mem_singleton.1 hx]; exact hc
   | false =>
     rw [hb] at h; simp only [cond_false, Option.map_eq_some_iff] at h ⊢; obtain ⟨zs, h1, rfl⟩ := h; obtain ⟨ys, g1, g2⟩ := lS hn h1 (fun x hx => ht x (List.mem_cons_of_mem _ hx)); refine ⟨_, ⟨ys, g1, rfl⟩, fun x hx => ?_⟩; rcases List.mem_cons.1 hx with rfl | hx
     ·have hc : ((l8 (c.aT pr)).den e).B = true := ht _ (List.mem_cons_self ..); show ((l8 c).den e').B = true; rw [iD] at hc ⊢; rw [<- E.aP hn]; exact hc
     ·exact g2 x hx
def Gf (D : ak) : List (E × Nat) := D.bp.map fun x => (x.1.aT D.R3, x.2)
def full (D : ak) (H : Head) : Head := lz D.base D.N D.js H
def kd (P : Program) (D : ak) (T : TypeId) : Option aJ :=
 match Df D.xR T with
 | some k => some k
 | none => agj P T
def G1 (D : ak) (q : bU) : Bool :=
 match q.ex with
 | .normal => fH q.vcs || (match (D.dD q.fr.sl).at q.h with | some m => Nat.beq m 777 | none => false)
 | _ => fH q.vcs
def fU (P : Program) (D : ak) (nh : Nat) (q : bU) : Option (aa × List Ob) :=
 cond (Nat.beq q.fr.sl.length D.N)
  (cond (D.G1 q) (some (q.fs.take (q.fs.length - nh), [.e (.bl false)])) <| match q.ex with
  | .normal =>
    match (D.dD q.fr.sl).at q.h with
    | some μ' =>
      match Mp q (D.hd μ') with
      | some l =>
        match q.lG (D.kd P) (D.hd μ').ov (D.hd μ').h l with
        | some (q', ob) => cond (D.ll μ') ((j7 D.YP (fun _ => true) q' (D.full (D.hd μ')) l D.fixed D.iU).map fun es => (q.fs.take (q.fs.length - nh), jM q.fs (.e D.lt :: (nA (ox D.YP (D.mf μ')) ++ (q.vcs ++ (ob ++ es)))))) none
        | none => none
      | none => none
    | none => none
  | ex =>
    match (D.sQ ex q.fr.sl).at q.h with
    | some ν =>
      match Mp q (D.hx ν), eD D.Gf ν with
      | some l, some xs =>
        match q.lG (D.kd P) (D.hx ν).ov (D.hx ν).h l with
        | some (q', ob) => cond (vS ex (D.nU ν)) ((j7 D.R3 (fun _ => true) q' (D.full (D.hx ν)) l D.fixed D.iU).map fun es => (q.fs.take (q.fs.length - nh), jM q.fs (xs ++ (q.vcs ++ (ob ++ es))))) none
        | none => none
      | _, _ => none
    | none => none) none
def me (P : Program) (D : ak) (nh : Nat) : List bU -> Option (List (aa × List Ob))
 | [] => some []
 | q :: r =>
   match D.fU P nh q, D.me P nh r with
   | some x, some l => some (x :: l)
   | _, _ => none
def paths (P : Program) (D : ak) (μ : Nat) : Ex (List bU) :=
 ik P D.X D.fuel (.code D.f (fQ P D.f D.key) ⟨eu (D.full (D.hd μ)).ov (fun _ => .nilIface) 0 D.N, D.iU⟩) (D.hd μ).h (D.hd μ).m D.np (D.hd μ).fs []
def iK (P : Program) (D : ak) (μ : Nat) : Option (List (aa × List Ob)) :=
 match D.paths P μ with
 | .ok l => cond ((D.hd μ).h.all fun x => bW x.2) (D.me P (D.hd μ).fs.length l) none
 | _ => none
theorem kE {P : Program} {D : ak} {nh : Nat} : ∀ {l : List bU} {L : List (aa × List Ob)}, D.me P nh l = some L -> ∀ q ∈ l, ∃ x ∈ L, D.fU P nh q = some x
 | [], L, _, q, hq => by cases hq
 | p :: r, L, h, q, hq => by
   unfold me at h; split at h
   ·rename_i x l hx hl; injection h with h; subst h; rcases List.mem_cons.1 hq with rfl | hq
    ·exact ⟨x, List.mem_cons_self .., hx⟩
    ·obtain ⟨y, hy, h2⟩ := kE hl q hq; exact ⟨y, List.mem_cons_of_mem _ hy, h2⟩
   ·cases h
def leaves (P : Program) (D : ak) (μ : Nat) : List bU :=
 match D.paths P μ with
 | .ok l => l
 | _ => []
theorem vX {P : Program} {D : ak} {μ : Nat} {L : List (aa × List Ob)} (h : D.iK P μ = some L) : D.paths P μ = .ok (D.leaves P μ) /\ ((D.hd μ).h.all fun x => bW x.2) = true /\ D.me P (D.hd μ).fs.length (D.leaves P μ) = some L := by
 unfold iK at h; unfold leaves; cases hp : D.paths P μ with
 | error e => rw [hp] at h; cases h
 | ok l =>
   rw [hp] at h; simp only at h ⊢; cases hb : (D.hd μ).h.all fun x => bW x.2 with
   | false => rw [hb] at h; cases h
   | true => rw [hb] at h; exact ⟨trivial, rfl, h⟩
theorem comp {P : Program} (hP : Plain P) (hM : P.follows .mixedOrders = true) {D : ak} (hbody : ((P.funcs[D.f]?).bind (·.body)).isSome = true) {e : Env} {u : Nat -> Value} {A : Anchor} {n : Nat} {mode : Nat -> Nat -> Prop}
    (hX : ∀ i, i <= n -> ez P (D.env e u i) A (D.X.cN P)) {L : Nat -> List (aa × List Ob)} (nW : ∀ i μ, mode i μ -> D.iK P μ = some (L μ))
    (cI : ∀ i μ, mode i μ -> i <= n -> ∀ x ∈ L μ, x.1.ay (D.env e u i) -> cM (D.env e u i) x.2) (yx : ∀ i μ, mode i μ -> i <= n -> (D.hd μ).fs.ay (D.env e u i)) (cV : ∀ i, i <= n -> (D.lt.den (D.env e u i)).B = true -> i < n)
    (zd : ∀ i μ μ', mode i μ -> D.ll μ' = true -> (D.mf μ').ay (D.env e u (i + 1)) -> i + 1 <= n -> ∃ μ2, mode (i + 1) μ2 /\ gz (D.hd μ2) (D.hd μ')) (hxobj : ∀ ν, ((D.hx ν).h.all fun x => bW x.2) = true)
    {ρ0 : ah} {u0 : Nat -> Value} {a : Act} {w : World} {Q : Exit -> Act -> World -> Prop} {μ0 : Nat} (uR : mode 0 μ0)
    (hs : Sat (D.env e u 0) A ρ0 ⟨eu (D.full (D.hd μ0)).ov u0 0 D.N, D.iU⟩ (bm (D.hd μ0).h) (D.hd μ0).m a w)
    (hexit : ∀ ν ρ (a' : Act) w', (∃ xs, eD D.bp ν = some xs /\ cM (D.env e u 0) xs) -> ((∀ k ∈ D.fixed, ∀ p, ρ0 k = some p -> ρ k = some p) /\ Fz.le ρ0.fz ρ.fz) ->
     Sat (D.env e u 0) A ρ ⟨eu (D.full (D.hx ν)).ov (fun _ => .nilIface) 0 D.N, D.iU⟩ (bm (D.hx ν).h) (D.hx ν).m a' w' -> Q (D.nU ν).den a' w') :
    (Code.loop (fQ P D.f D.key)).wp P Q a w := by
 have leaf : ∀ i μ, mode i μ -> ∀ q ∈ D.leaves P μ, ∃ x ∈ L μ, D.fU P (D.hd μ).fs.length q = some x := fun i μ hm q hq => kE (vX (nW i μ hm)).2.2 q hq
 have split : ∀ {nh : Nat} {q : bU} {x : aa × List Ob}, D.fU P nh q = some x -> q.fr.sl.length = D.N /\ (∀ env, q.fs.ay env -> x.1.ay env) /\
     ((q.ex = .normal /\ ∃ μ' l q' ob es, q.lG (D.kd P) (D.hd μ').ov (D.hd μ').h l = some (q', ob) /\ D.ll μ' = true /\ j7 D.YP (fun _ => true) q' (D.full (D.hd μ')) l D.fixed D.iU = some es /\ x.2 = jM q.fs (.e D.lt :: (nA (ox D.YP (D.mf μ')) ++ (q.vcs ++ (ob ++ es))))) \/
      (q.ex ≠ .normal /\ ∃ ν l q' ob es xs, q.lG (D.kd P) (D.hx ν).ov (D.hx ν).h l = some (q', ob) /\ q.ex = D.nU ν /\ eD D.Gf ν = some xs /\ j7 D.R3 (fun _ => true) q' (D.full (D.hx ν)) l D.fixed D.iU = some es /\ x.2 = jM q.fs (xs ++ (q.vcs ++ (ob ++ es)))) \/ x.2 = [.e (.bl false)]) := by
  intro nh q x h; have htk : ∀ env, q.fs.ay env -> aa.ay env (q.fs.take (q.fs.length - nh)) := fun env hh e b hm => hh e b (List.mem_of_mem_take hm); unfold fU at h; cases hb : Nat.beq q.fr.sl.length D.N with
  | false => rw [hb] at h; cases h
  | true =>
    rw [hb] at h; simp only [cond_true] at h; refine ⟨Nat.eq_of_beq_eq_true hb, ?_⟩; cases hdd : D.G1 q with
    | true =>
      rw [hdd, cond_true] at h; injection h with h; subst h; exact ⟨htk, .inr (.inr rfl)⟩
    | false =>
    rw [hdd, cond_false] at h; split at h
    ·rename_i hex; split at h
     ·rename_i μ' hmu; split at h
      ·rename_i l hl; split at h
       ·rename_i q' ob hth; cases htg : D.ll μ' with
        | false => rw [htg] at h; cases h
        | true =>
          rw [htg] at h; simp only [cond_true, Option.map_eq_some_iff] at h; obtain ⟨es, h1, rfl⟩ := h; exact ⟨htk, .inl ⟨hex, μ', l, q', ob, es, hth, htg, h1, rfl⟩⟩
       ·cases h
      ·cases h
     ·cases h
    ·rename_i hex; split at h
     ·rename_i ν hnu; split at h
      ·rename_i l xs hl hxs; split at h
       ·rename_i q' ob hth; cases hsm : vS q.ex (D.nU ν) with
        | false => rw [hsm] at h; cases h
        | true =>
          rw [hsm] at h; simp only [cond_true] at h; rw [Option.map_eq_some_iff] at h; obtain ⟨es, h1, rfl⟩ := h; exact ⟨htk, .inr (.inl ⟨hex, ν, l, q', ob, es, xs, hth, yU hsm, hxs, h1, rfl⟩)⟩
       ·cases h
      ·cases h
     ·cases h
 refine FZ hP hM (oQ D.key hbody) (N := D.N) (heads := fun μ => D.full (D.hd μ)) (env := D.env e u) (A := A) (n := n) (mode := mode) (X := D.X) hX (fuel := D.fuel) (np := D.np) (js := [])
  (leaves := fun μ _ => D.leaves P μ) (cX := []) (fixed := D.fixed) (u0 := u0) (ρ0 := ρ0) (fun i μ u hm => ?_) yx (fun i μ hm => (vX (nW i μ hm)).2.1) (fun i μ u hm q hq _ => ?_) (fun i μ u hm hi _ q hq hqf => ?_) (fun i μ u2 ρ a' w' hm hi q hq hqf hex _ hfix hsq => ?_) uR hs
 ·have := (vX (nW i μ hm)).1; unfold paths at this; rw [<- this]; show ik P D.X D.fuel (.code D.f (fQ P D.f D.key) ⟨eu (jO D.base D.N D.js (D.hd μ).ov) u 0 D.N, D.iU⟩) _ _ _ _ _ = ik P D.X D.fuel (.code D.f (fQ P D.f D.key) ⟨eu (jO D.base D.N D.js (D.hd μ).ov) (fun _ => .nilIface) 0 D.N, D.iU⟩) _ _ _ _ _; rw [gG u (fun _ => .nilIface)]; rfl
 ·obtain ⟨x, _, hx⟩ := leaf i μ hm q hq; exact (split hx).1
 ·obtain ⟨x, hxL, hx⟩ := leaf i μ hm q hq; obtain ⟨hl, hfx, hc⟩ := split hx; have ht := cI i μ hm hi x hxL (hfx _ hqf); rcases hc with ⟨hex, μ', l, q', ob, es, hth, h1, h2, h3⟩ | ⟨hex, ν, l, q', ob, es, xs, hth, h1, h2, h3, h4⟩ | h3
  rotate_right
  ·rw [h3] at ht; exact (gK (vcs := [.e (.bl false)]) rfl ht).elim
  ·rw [h3] at ht; have ht := gM hqf ht; have t0 := ht _ (List.mem_cons_self ..); obtain ⟨tm, ht⟩ := aL.1 (fun y hy => ht y (List.mem_cons_of_mem _ hy)); obtain ⟨t1, t2⟩ := aL.1 ht; obtain ⟨t3, t2⟩ := aL.1 t2; refine ⟨t1, fun _ => ⟨cV i hi t0, ?_⟩⟩; obtain ⟨μ2, hm2, hsame⟩ := zd i μ μ' hm h1 (kg (D.M6 e _ i) (kf tm)) (cV i hi t0); exact ⟨μ2, l, q', hm2, bU.m3 hth t3, (hsame.full _ _ _).turns (nk (D.M6 e _ i) (D.Aq (D.M6 e _ i)) h2 t2)⟩
  ·rw [h4] at ht; have ht := gM hqf ht; exact ⟨(aL.1 (aL.1 ht).2).1, fun he => absurd he hex⟩
 ·obtain ⟨x, hxL, hx⟩ := leaf i μ hm q hq; obtain ⟨hl, hfx, hc⟩ := split hx; have ht := cI i μ hm hi x hxL (hfx _ hqf); rcases hc with ⟨hex', _⟩ | ⟨_, ν, l, q', ob, es, xs, hth, h1, h2, h3, h4⟩ | h3
  ·exact absurd hex' hex
  rotate_right
  ·rw [h3] at ht; exact (gK (vcs := [.e (.bl false)]) rfl ht).elim
  ·rw [h4] at ht; have ht := gM hqf ht; obtain ⟨t0, ht⟩ := aL.1 ht; obtain ⟨t3, t4⟩ := aL.1 (aL.1 ht).2; have hT := bU.m3 hth t3; obtain ⟨ρ3, hle3, hs3⟩ := hT.sat A ρ a' w' hsq; have T := nk (u := fun _ => .nilIface) (D.L4 e u i) (D.Aq (D.L4 e u i)) h3 t4; obtain ⟨ys, hy1, hy2⟩ := lS (D.L4 e u i) h2 t0; have S := sb hs3 T.ov T.hp (hxobj ν) T.inj T.lt T.df T.dv (hT.len.trans hl) T.Jq; rw [h1]
   refine hexit ν (ρ3.re (sig l q'.nx)) a' w' ⟨ys, hy1, hy2⟩ ⟨fun k hk p hp => ?_, Fz.le_trans hfix.2 hle3.fz⟩ (by
    have e : eu (D.full (D.hx ν)).ov (fun j => (a'.tmps.toList[j]?).getD undef) 0 D.N = eu (D.full (D.hx ν)).ov (fun _ => .nilIface) 0 D.N := gG _ _; rw [e] at S
    exact S)
   show ρ3 (sig l q'.nx k) = some p; rw [T.fixed k hk]; exact hle3 k p (hfix.1 k hk p hp)
end ak
end Go.Sx
