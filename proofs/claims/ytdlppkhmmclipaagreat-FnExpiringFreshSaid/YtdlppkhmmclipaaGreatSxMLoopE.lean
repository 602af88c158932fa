/-
  SX, PART 27: a loop's contract, computed: heads, paths and what is left to show.
-/
import Derived.Test.YtdlppkhmmclipaaGreatSxMLoop
namespace Go.Sx
open Go.RowKit
set_option linter.unusedVariables false
set_option linter.unusedSimpArgs false
def E.prime (pr : Nat -> E) : E -> E
  | .v n => pr n
  | .il z => .il z
  | .bl b => .bl b
  | .sl s => .sl s
  | .fn c a => .fn c (a.prime pr)
  | .uf c a => .uf c (a.prime pr)
  | .o1 o a => mk1 o (a.prime pr)
  | .o2 o a b => mk2 o (a.prime pr) (b.prime pr)
  | .ext s lo hi => .ext (s.prime pr) (lo.prime pr) (hi.prime pr)
structure Nexts (e e' : Env) (pr : Nat -> E) (okv : Nat -> Bool) : Prop where
  v : ∀ n, e'.v n = (pr n).den e
  fn : e'.fn = e.fn
  val : ∀ c, okv c = true -> ∀ i, e'.val c i = e.val c i
  mp : e'.mp = e.mp
  uf : e'.uf = e.uf
theorem E.prime_den {e e' : Env} {pr : Nat -> E} {okv : Nat -> Bool} (h : Nexts e e' pr okv) : ∀ (x : E), (x.prime pr).den e = x.den e' := by
  intro x
  induction x with
  | v n => exact (h.v n).symm
  | fn c a ih => simp only [E.prime, E.den, ih, h.fn]
  | uf c a ih => simp only [E.prime, E.den, ih, h.uf]
  | o1 o a ih => simp only [E.prime, mk1_den, E.den, ih]
  | o2 o a b iha ihb => simp only [E.prime, mk2_den, E.den, iha, ihb]
  | ext s lo hi i1 i2 i3 => simp only [E.prime, E.den, i1, i2, i3]
  | _ => rfl
def oblI (a b : E) : List Ob := cond (a.same b) [] [.e (.o2 .ieq a b)]
def oblB (a b : E) : List Ob := cond (a.same b) [] [.e (.o2 .beq a b)]
def oblS (a b : E) : List Ob := cond (a.same b) [] [.e (.o2 .seq a b)]
def AllT (e : Env) (l : List Ob) : Prop := ∀ x ∈ l, x.den e
theorem allT_append {e : Env} {a b : List Ob} : AllT e (a ++ b) ↔ AllT e a /\ AllT e b :=
  ⟨fun h => ⟨fun x hx => h x (List.mem_append_left _ hx), fun x hx => h x (List.mem_append_right _ hx)⟩, fun h x hx => (List.mem_append.1 hx).elim (h.1 x) (h.2 x)⟩
theorem oblI_ok {e : Env} {a b : E} (h : AllT e (oblI a b)) : (a.den e).I = (b.den e).I := by
  unfold oblI at h; cases hs : a.same b with
  | true => rw [E.same_eq hs]
  | false =>
    rw [hs] at h; have : ((a.den e).I == (b.den e).I) = true := h _ (List.mem_singleton.2 rfl); simpa using this
theorem oblB_ok {e : Env} {a b : E} (h : AllT e (oblB a b)) : (a.den e).B = (b.den e).B := by
  unfold oblB at h; cases hs : a.same b with
  | true => rw [E.same_eq hs]
  | false =>
    rw [hs] at h; have : ((a.den e).B == (b.den e).B) = true := h _ (List.mem_singleton.2 rfl); simpa using this
theorem oblS_ok {e : Env} {a b : E} (h : AllT e (oblS a b)) : (a.den e).S = (b.den e).S := by
  unfold oblS at h; cases hs : a.same b with
  | true => rw [E.same_eq hs]
  | false =>
    rw [hs] at h; have : ((a.den e).S.toList == (b.den e).S.toList) = true := h _ (List.mem_singleton.2 rfl); have h2 : (a.den e).S.toList = (b.den e).S.toList := by simpa using this
    have h4 : ((a.den e).S == (b.den e).S) = true := by rw [bytes_beq]; exact this
    have h5 : ((a.den e).S.data == (b.den e).S.data) = true := h4; exact ByteArray.ext (by simpa using h5)
def oblT (a b : E) : List Ob := cond (a.same b) [] [.t a b]
def oblP (a b : E) : List Ob := cond (a.same b) [] [.p a b]
theorem oblP_ok {e : Env} {a b : E} (h : AllT e (oblP a b)) : (a.den e).T.Perm (b.den e).T := by
  unfold oblP at h; cases hs : a.same b with
  | true => rw [E.same_eq hs]
  | false => rw [hs] at h; exact h _ (List.mem_singleton.2 rfl)
theorem oblT_ok {e : Env} {a b : E} (h : AllT e (oblT a b)) : (a.den e).T = (b.den e).T := by
  unfold oblT at h; cases hs : a.same b with
  | true => rw [E.same_eq hs]
  | false => rw [hs] at h; exact h _ (List.mem_singleton.2 rfl)
section
variable (pr : Nat -> E) (okv : Nat -> Bool) (σ : Nat -> Nat)
def obl2 (a b : Option (List Ob)) : Option (List Ob) :=
  match a, b with
  | some x, some y => some (x ++ y)
  | _, _ => none
def ifB (b : Bool) : Option (List Ob) := cond b (some []) none
mutual
def entC : SV -> SV -> Option (List Ob)
  | _, .top => some []
  | .int k a, .int k' b => cond (kSame k k') (some (oblI a (b.prime pr))) none
  | .bool a, .bool b => some (oblB a (b.prime pr))
  | .str a, .str b => some (oblS a (b.prime pr))
  | .val c a, .val d b => cond (Nat.beq c d && okv c) (some (oblI a (b.prime pr))) none
  | .nilp, .nilp => some []
  | .ptr n (.c j), .ptr m (.c j') => ifB (Nat.beq n (σ m) && Nat.beq j j')
  | .anyp, .anyp => some []
  | .nilsl, .nilsl => some []
  | .sl n sz lo len, .sl m sz' lo' len' => cond (Nat.beq n (σ m) && Nat.beq sz sz') (some (oblI lo (lo'.prime pr) ++ oblI len (len'.prime pr))) none
  | .dsl ks a, .dsl ks' b => cond (ks.same ks') (some (oblT a (b.prime pr))) none
  | .nilsl, .dsl _ b => some (oblT (.il 0) (b.prime pr))
  | .dslx ks a, .dsl ks' b => cond (ks.same ks') (some (oblT a (b.prime pr))) none
  | .dslx ks a, .dslx ks' b => cond (ks.same ks') (some (oblT a (b.prime pr))) none
  | .dptr ks a i j, .dptr ks' b i' j' => cond (ks.same ks' && Nat.beq j j') (some (oblT (rowE a i) (rowE (b.prime pr) (i'.prime pr)))) none
  | .apt T i j, .apt T' i' j' => cond (Nat.beq T T' && Nat.beq j j') (some (oblI i (i'.prime pr))) none
  | .nilp, .apt _ i' 0 => some [.e (ltE (i'.prime pr) (.il 0))]
  | .nilmap, .nilmap => some []
  | .map n, .map m => ifB (Nat.beq n (σ m))
  | .chan n, .chan m => ifB (Nat.beq n (σ m))
  | .nilch, .nilch => some []
  | .nilfn, .nilfn => some []
  | .fn (.func f) a c, .fn (.func g) b d => cond (Nat.beq f g) (obl2 (entCs a b) (entCs c d)) none
  | .nilif, .nilif => some []
  | .ifc t x, .ifc u y => cond (Nat.beq t u) (entC x y) none
  | .agg l, .agg m => entCs l m
  | .tup l, .tup m => entCs l m
  | _, _ => none
def entCs : List SV -> List SV -> Option (List Ob)
  | [], [] => some []
  | x :: l, y :: m => obl2 (entC x y) (entCs l m)
  | _, _ => none
end
end
theorem obl2_some {a b : Option (List Ob)} {l : List Ob} (h : obl2 a b = some l) : ∃ x y, a = some x /\ b = some y /\ l = x ++ y := by
  unfold obl2 at h; split at h
  . rename_i x y; injection h with h; exact ⟨x, y, rfl, rfl, h.symm⟩
  . cases h
theorem ifB_some {b : Bool} {l : List Ob} (h : ifB b = some l) : b = true /\ l = [] := by
  cases b with
  | true => injection h with h; exact ⟨rfl, h.symm⟩
  | false => cases h
theorem kSame_eq' {k k' : IntKind} (h : kSame k k' = true) : k = k' := by cases k <;> cases k' <;> first | rfl | (simp [kSame] at h)
section
variable {e e' : Env} {pr : Nat -> E} {okv : Nat -> Bool} {σ : Nat -> Nat}
mutual
theorem entC_ok (hn : Nexts e e' pr okv) : ∀ {x y : SV} {l : List Ob}, entC pr okv σ x y = some l -> AllT e l -> SV.ent e e' σ x y := by
  intro x y l h ht; cases y with
  | top => cases x <;> trivial
  | int k b =>
    cases x <;> simp only [entC] at h <;> try (cases h; done)
    rename_i k' a; cases hk : kSame k' k with
    | false => rw [hk] at h; cases h
    | true =>
      rw [hk] at h; simp only [cond_true, Option.some.injEq] at h; subst h; exact ⟨kSame_eq' hk, by rw [oblI_ok ht, E.prime_den hn]⟩
  | bool b =>
    cases x <;> simp only [entC] at h <;> try (cases h; done)
    simp only [Option.some.injEq] at h; subst h; show _ = _; rw [oblB_ok ht, E.prime_den hn]
  | str b =>
    cases x <;> simp only [entC] at h <;> try (cases h; done)
    simp only [Option.some.injEq] at h; subst h; show _ = _; rw [oblS_ok ht, E.prime_den hn]
  | flt f => cases x <;> simp [entC] at h
  | val d b =>
    cases x with
    | val c a =>
      simp only [entC] at h; cases hb : (Nat.beq c d && okv c) with
      | false => rw [hb] at h; cases h
      | true =>
        rw [hb] at h; simp only [cond_true, Option.some.injEq] at h; subst h; rw [Bool.and_eq_true] at hb; obtain rfl := Nat.eq_of_beq_eq_true hb.1; show e.val c _ = e'.val c _; rw [hn.val c hb.2, oblI_ok ht, E.prime_den hn]
    | _ => simp [entC] at h
  | dsl ks b =>
    cases x <;> simp only [entC] at h <;> try (cases h; done)
    . simp only [Option.some.injEq] at h; subst h; show (b.den e').T = []; rw [<- E.prime_den hn]; exact (oblT_ok ht).symm
    . rename_i ks' a; cases hk : ks'.same ks with
      | false => rw [hk] at h; cases h
      | true =>
        rw [hk] at h; simp only [cond_true, Option.some.injEq] at h; subst h; refine ⟨DKs.same_eq hk, ?_⟩; rw [<- E.prime_den hn]; exact oblT_ok ht
    . rename_i ks' a; cases hk : ks'.same ks with
      | false => rw [hk] at h; cases h
      | true =>
        rw [hk] at h; simp only [cond_true, Option.some.injEq] at h; subst h; refine ⟨DKs.same_eq hk, ?_⟩; rw [<- E.prime_den hn]; exact oblT_ok ht
  | dslx ks b =>
    cases x <;> simp only [entC] at h <;> try (cases h; done)
    rename_i ks' a; cases hk : ks'.same ks with
    | false => rw [hk] at h; cases h
    | true =>
      rw [hk] at h; simp only [cond_true, Option.some.injEq] at h; subst h; refine ⟨DKs.same_eq hk, ?_⟩; rw [<- E.prime_den hn]; exact oblT_ok ht
  | dptr ks b i' j' =>
    cases x <;> simp only [entC] at h <;> try (cases h; done)
    rename_i ks' a i j; cases hk : (ks'.same ks && Nat.beq j j') with
    | false => rw [hk] at h; cases h
    | true =>
      rw [hk] at h; simp only [cond_true, Option.some.injEq] at h; subst h; rw [Bool.and_eq_true] at hk; refine ⟨DKs.same_eq hk.1, Nat.eq_of_beq_eq_true hk.2, fun m => ?_⟩; have h1 := oblT_ok ht; have h2 : ((rowE a i).den e).at 0 m = ((rowE (b.prime pr) (i'.prime pr)).den e).at 0 m := by unfold Dv.at; rw [h1]
      rw [rowE_at, rowE_at, E.prime_den hn, E.prime_den hn] at h2; exact h2
  | apt T' i' j' =>
    cases x with
    | nilp =>
      cases j' with
      | succ j => simp only [entC] at h; cases h
      | zero =>
        simp only [entC, Option.some.injEq] at h; subst h; have h1 : ((ltE (i'.prime pr) (.il 0)).den e).B = true := ht _ (List.mem_singleton.2 rfl); rw [ltE_iff, E.prime_den hn] at h1; exact ⟨rfl, h1⟩
    | apt T i j =>
      simp only [entC] at h; cases hk : (Nat.beq T T' && Nat.beq j j') with
      | false => rw [hk] at h; cases h
      | true =>
        rw [hk] at h; simp only [cond_true, Option.some.injEq] at h; subst h; rw [Bool.and_eq_true] at hk; exact ⟨Nat.eq_of_beq_eq_true hk.1, Nat.eq_of_beq_eq_true hk.2, by rw [oblI_ok ht, E.prime_den hn]⟩
    | _ => simp only [entC] at h; cases h
  | nilp => cases x <;> simp [entC] at h <;> trivial
  | anyp => cases x <;> simp [entC] at h <;> trivial
  | ptr m o =>
    cases x with
    | ptr n o2 =>
      cases o with
      | el _ _ _ => cases o2 <;> simp [entC] at h
      | c j' =>
        cases o2 with
        | el _ _ _ => simp [entC] at h
        | c j =>
          simp only [entC] at h; obtain ⟨hb, rfl⟩ := ifB_some h; simp only [Bool.and_eq_true, Nat.beq_eq] at hb; exact ⟨hb.1, by show j = j'; exact hb.2⟩
    | _ => simp [entC] at h
  | nilsl => cases x <;> simp [entC] at h <;> trivial
  | sl m sz' lo' len' =>
    cases x with
    | sl n sz lo len =>
      simp only [entC] at h; cases hb : (Nat.beq n (σ m) && Nat.beq sz sz') with
      | false => rw [hb] at h; cases h
      | true =>
        rw [hb] at h; simp only [cond_true, Option.some.injEq] at h; subst h; simp only [Bool.and_eq_true, Nat.beq_eq] at hb; obtain ⟨t1, t2⟩ := allT_append.1 ht; exact ⟨hb.1, hb.2, by rw [oblI_ok t1, E.prime_den hn], by rw [oblI_ok t2, E.prime_den hn]⟩
    | _ => simp [entC] at h
  | nilmap => cases x <;> simp [entC] at h <;> trivial
  | map m =>
    cases x with
    | map n =>
      simp only [entC] at h; obtain ⟨hb, rfl⟩ := ifB_some h; exact Nat.eq_of_beq_eq_true hb
    | _ => simp [entC] at h
  | chan m =>
    cases x with
    | chan n =>
      simp only [entC] at h; obtain ⟨hb, rfl⟩ := ifB_some h; exact Nat.eq_of_beq_eq_true hb
    | _ => simp [entC] at h
  | nilch => cases x <;> simp [entC] at h <;> trivial
  | nilfn => cases x <;> simp [entC] at h <;> trivial
  | fn g b d =>
    cases x with
    | fn f a c =>
      cases f <;> cases g <;> simp only [entC] at h <;> try (cases h; done)
      rename_i f g; cases hb : Nat.beq f g with
      | false => rw [hb] at h; cases h
      | true =>
        rw [hb] at h; obtain ⟨l1, l2, h1, h2, rfl⟩ := obl2_some h; obtain ⟨t1, t2⟩ := allT_append.1 ht; exact ⟨by rw [Nat.eq_of_beq_eq_true hb], entCs_ok hn h1 t1, entCs_ok hn h2 t2⟩
    | _ => simp [entC] at h
  | nilif => cases x <;> simp [entC] at h <;> trivial
  | ifc u y =>
    cases x with
    | ifc t x =>
      simp only [entC] at h; cases hb : Nat.beq t u with
      | false => rw [hb] at h; cases h
      | true => rw [hb] at h; exact ⟨Nat.eq_of_beq_eq_true hb, entC_ok hn h ht⟩
    | _ => simp [entC] at h
  | agg m => cases x <;> simp only [entC] at h <;> first | (cases h; done) | exact entCs_ok hn h ht
  | tup m => cases x <;> simp only [entC] at h <;> first | (cases h; done) | exact entCs_ok hn h ht
  | cst u => cases x <;> simp [entC] at h
theorem entCs_ok (hn : Nexts e e' pr okv) : ∀ {xs ys : List SV} {l : List Ob}, entCs pr okv σ xs ys = some l -> AllT e l -> SV.ents e e' σ xs ys := by
  intro xs ys l h ht; cases xs with
  | nil => cases ys <;> simp only [entCs] at h <;> first | trivial | (cases h; done)
  | cons x xs =>
    cases ys with
    | nil => simp [entCs] at h
    | cons y ys =>
      simp only [entCs] at h; obtain ⟨l1, l2, h1, h2, rfl⟩ := obl2_some h; obtain ⟨t1, t2⟩ := allT_append.1 ht; exact ⟨entC_ok hn h1 t1, entCs_ok hn h2 t2⟩
end
end
def Col.same : Col -> Col -> Bool
  | .int k c, .int k' d => kSame k k' && Nat.beq c d
  | .bool c, .bool d => Nat.beq c d
  | .str c, .str d => Nat.beq c d
  | .val c, .val d => Nat.beq c d
  | .dsl ks c, .dsl ks' d => ks.same ks' && Nat.beq c d
  | _, _ => false
theorem Col.same_eq {a b : Col} (h : a.same b = true) : a = b := by
  cases a <;> cases b <;> simp only [Col.same, Bool.and_eq_true, Nat.beq_eq] at h <;> first
    | (obtain ⟨h1, h2⟩ := h; rw [kSame_eq' h1, h2]; done)
    | (obtain ⟨h1, h2⟩ := h; rw [DKs.same_eq h1, h2]; done)
    | (rw [h]; done)
    | (cases h; done)
def colsSame : List Col -> List Col -> Bool
  | [], [] => true
  | a :: l, b :: m => a.same b && colsSame l m
  | _, _ => false
theorem colsSame_eq : ∀ {l m : List Col}, colsSame l m = true -> l = m
  | [], [], _ => rfl
  | [], _ :: _, h => by cases h
  | _ :: _, [], h => by cases h
  | a :: l, b :: m, h => by
    simp only [colsSame, Bool.and_eq_true] at h; rw [Col.same_eq h.1, colsSame_eq h.2]
def Col.sameP (pr : Nat -> E) (okv : Nat -> Bool) : Col -> Col -> Bool
  | .tc k x j, .tc k' y j' => k.same k' && x.same (y.prime pr) && Nat.beq j j'
  | .val c, .val d => Nat.beq c d && okv c
  | a, b => a.same b
def colsSameP (pr : Nat -> E) (okv : Nat -> Bool) : List Col -> List Col -> Bool
  | [], [] => true
  | a :: l, b :: m => a.sameP pr okv b && colsSameP pr okv l m
  | _, _ => false
def treeC : DK -> E -> SV -> Option (List Ob)
  | .int k, t, .int k' a => cond (kSame k' k) (some (oblI a t)) none
  | .bool, t, .bool a => some (oblB a t)
  | .str, t, .str a => some (oblS a t)
  | .sl ks, t, .dsl ks' a => cond (ks'.same ks) (some (oblT a t)) none
  | .sl ks, t, .nilsl => some (oblT (.il 0) t)
  | .fp ks, t, .dptr ks' a i 0 => cond (ks'.same ks) (some (oblT (rowE a i) t)) none
  | .ifc ty k, t, .ifc ty' x => cond (Nat.beq ty' ty) (treeC k t x) none
  | .nilm, _, .nilmap => some []
  | .ap T, t, .apt T' a 0 => cond (Nat.beq T' T) (some (oblI a t)) none
  | .ap _, t, .nilp => some [.e (ltE t (.il 0))]
  | _, _, _ => none
def cellObl (pr : Nat -> E) : Col -> SV -> E -> Option (List Ob)
  | .int k c, x, ix => treeC (.int k) (.fn c ix) x
  | .bool c, x, ix => treeC .bool (.fn c ix) x
  | .str c, x, ix => treeC .str (.fn c ix) x
  | .dsl ks c, x, ix => treeC (.sl ks) (.fn c ix) x
  | .tc k e j, x, ix => treeC k (.o2 (.cell j) (e.prime pr) ix) x
  | .val _, _, _ => none
def rowObl (pr : Nat -> E) : List Col -> List SV -> E -> Option (List Ob)
  | [], _, _ => some []
  | c :: cs, x :: xs, ix => obl2 (cellObl pr c x ix) (rowObl pr cs xs ix)
  | _ :: _, [], _ => none
def tailObl (pr : Nat -> E) (cols : List Col) (len : E) : Nat -> List (List SV) -> Option (List Ob)
  | _, [] => some []
  | k, t :: r => obl2 (rowObl pr cols t (addI len (.il (k : Nat)))) (tailObl pr cols len (k + 1) r)
def isNought : E -> Bool
  | .il 0 => true
  | _ => false
def colsOk (okv : Nat -> Bool) : List Col -> Bool
  | [] => true
  | .val c :: r => okv c && colsOk okv r
  | .tc _ _ _ :: _ => false
  | _ :: r => colsOk okv r
def Off.pri (pr : Nat -> E) : Off -> Off
  | .c j => .c j
  | .el i sz j => .el (i.prime pr) sz j
mutual
def SV.ren (τ : Nat -> Nat) (pr : Nat -> E) : SV -> SV
  | .int k e => .int k (e.prime pr)
  | .bool e => .bool (e.prime pr)
  | .str e => .str (e.prime pr)
  | .val c i => .val c (i.prime pr)
  | .ptr n o => .ptr (τ n) (o.pri pr)
  | .sl n sz lo len => .sl (τ n) sz (lo.prime pr) (len.prime pr)
  | .dsl ks e => .dsl ks (e.prime pr)
  | .dslx ks e => .dslx ks (e.prime pr)
  | .dptr ks e i j => .dptr ks (e.prime pr) (i.prime pr) j
  | .apt T i j => .apt T (i.prime pr) j
  | .map n => .map (τ n)
  | .chan n => .chan (τ n)
  | .fn f a c => .fn f (SV.rens τ pr a) (SV.rens τ pr c)
  | .ifc t x => .ifc t (SV.ren τ pr x)
  | .agg l => .agg (SV.rens τ pr l)
  | .tup l => .tup (SV.rens τ pr l)
  | x => x
def SV.rens (τ : Nat -> Nat) (pr : Nat -> E) : List SV -> List SV
  | [] => []
  | x :: l => SV.ren τ pr x :: SV.rens τ pr l
end
def KV.ren (τ : Nat -> Nat) (pr : Nat -> E) : KV -> KV
  | .no => .no
  | .yes x => .yes (x.ren τ pr)
  | .may b x => .may (b.prime pr) (x.ren τ pr)
def knownRen (τ : Nat -> Nat) (pr : Nat -> E) (l : List (SV × KV)) : List (SV × KV) := l.map fun x => (x.1.ren τ pr, x.2.ren τ pr)
mutual
def SV.noval : SV -> Bool
  | .val _ _ => false
  | .agg l => SV.novals l
  | _ => true
def SV.novals : List SV -> Bool
  | [] => true
  | x :: l => SV.noval x && SV.novals l
end
mutual
theorem SV.fl_ren {e e' : Env} {pr : Nat -> E} {okv : Nat -> Bool} {τ : Nat -> Nat} (hn : Nexts e e' pr okv) : ∀ {x : SV}, x.noval = true -> SV.fl e (x.ren τ pr) = SV.fl e' x
  | .int .., _ => by simp only [SV.ren, SV.fl, E.prime_den hn]
  | .bool .., _ => by simp only [SV.ren, SV.fl, E.prime_den hn]
  | .str .., _ => by simp only [SV.ren, SV.fl, E.prime_den hn]
  | .val .., h => by cases h
  | .nilp, _ => rfl
  | .nilsl, _ => rfl
  | .nilif, _ => rfl
  | .agg l, h => by simp only [SV.ren, SV.fl, SV.fls_ren hn (l := l) h]
  | .flt .., _ => rfl
  | .ptr .., _ => rfl
  | .anyp, _ => rfl
  | .apt .., _ => rfl
  | .sl .., _ => rfl
  | .dsl .., _ => rfl
  | .dslx .., _ => rfl
  | .dptr .., _ => rfl
  | .nilmap, _ => rfl
  | .map .., _ => rfl
  | .chan .., _ => rfl
  | .nilch, _ => rfl
  | .nilfn, _ => rfl
  | .fn .., _ => rfl
  | .ifc .., _ => rfl
  | .tup .., _ => rfl
  | .top, _ => rfl
  | .cst .., _ => rfl
theorem SV.fls_ren {e e' : Env} {pr : Nat -> E} {okv : Nat -> Bool} {τ : Nat -> Nat} (hn : Nexts e e' pr okv) : ∀ {l : List SV}, SV.novals l = true -> SV.fls e (SV.rens τ pr l) = SV.fls e' l
  | [], _ => rfl
  | x :: l, h => by
    simp only [SV.novals, Bool.and_eq_true] at h; simp only [SV.rens, SV.fls, SV.fl_ren hn h.1, SV.fls_ren hn h.2]
end
def knownNoval : List (SV × KV) -> Bool
  | [] => true
  | (k, .no) :: r => k.noval && knownNoval r
  | (k, .yes x) :: r => k.noval && x.noval && knownNoval r
  | (k, .may _ x) :: r => k.noval && x.noval && knownNoval r
theorem flK_ren {e e' : Env} {pr : Nat -> E} {okv : Nat -> Bool} {τ : Nat -> Nat} (hn : Nexts e e' pr okv) : ∀ {l : List (SV × KV)}, knownNoval l = true -> flK e (knownRen τ pr l) = flK e' l
  | [], _ => rfl
  | (k, x) :: l, h => by
    have e1 : flK e (knownRen τ pr ((k, x) :: l)) = (match SV.fl e (k.ren τ pr), flO e (x.ren τ pr), flK e (knownRen τ pr l) with | some a, some b, some r => some ((a, b) :: r) | _, _, _ => none) := rfl
    have e2 : flK e' ((k, x) :: l) = (match SV.fl e' k, flO e' x, flK e' l with | some a, some b, some r => some ((a, b) :: r) | _, _, _ => none) := rfl
    rw [e1, e2]; cases x with
    | no => simp only [knownNoval, Bool.and_eq_true] at h; rw [SV.fl_ren hn h.1, flK_ren hn h.2]; rfl
    | yes x => simp only [knownNoval, Bool.and_eq_true] at h; simp only [KV.ren, flO, SV.fl_ren hn h.1.1, SV.fl_ren hn h.1.2, flK_ren hn h.2]
    | may b x => simp only [knownNoval, Bool.and_eq_true] at h; simp only [KV.ren, flO, SV.fl_ren hn h.1.1, SV.fl_ren hn h.1.2, flK_ren hn h.2, E.prime_den hn]
def mpObl (kk : KK) (m : Nat) (ix : E) (known : List (SV × KV)) (m' : Nat) (ix' : E) (known' : List (SV × KV)) : List Ob :=
  cond (known.isEmpty && known'.isEmpty && Nat.beq m m' && ix.same ix') [] [.mp kk m ix known m' ix' known']
theorem mpObl_ok {e : Env} {kk : KK} {m m' : Nat} {ix ix' : E} {known known' : List (SV × KV)} (h : AllT e (mpObl kk m ix known m' ix' known')) : (Ob.mp kk m ix known m' ix' known').den e := by
  unfold mpObl at h; cases hb : (known.isEmpty && known'.isEmpty && Nat.beq m m' && ix.same ix') with
  | false => rw [hb] at h; exact h _ (List.mem_singleton.2 rfl)
  | true =>
    simp only [Bool.and_eq_true] at hb; obtain ⟨⟨⟨h1, h1'⟩, h2⟩, h3⟩ := hb; have h1 : known = [] := by simpa using h1
    have h1' : known' = [] := by simpa using h1'
    subst h1; subst h1'; rw [Nat.eq_of_beq_eq_true h2, E.same_eq h3]; exact ⟨[], [], rfl, rfl, fun k _ => rfl⟩
theorem colsOk_mem {okv : Nat -> Bool} {c : Nat} : ∀ {l : List Col}, colsOk okv l = true -> Col.val c ∈ l -> okv c = true
  | [], _, h => by cases h
  | col :: r, ho, h => by
    rcases List.mem_cons.1 h with e | h
    . subst e; simp only [colsOk, Bool.and_eq_true] at ho; exact ho.1
    . refine colsOk_mem (l := r) ?_ h; cases col <;> simp only [colsOk, Bool.and_eq_true] at ho <;> first | exact ho.2 | exact ho | (cases ho; done)
theorem colsOk_tc {okv : Nat -> Bool} {k : DK} {x : E} {j : Nat} : ∀ {l : List Col}, colsOk okv l = true -> ¬ Col.tc k x j ∈ l
  | [], _, h => by cases h
  | col :: r, ho, h => by
    rcases List.mem_cons.1 h with e | h
    . subst e; simp only [colsOk] at ho; cases ho
    . refine colsOk_tc (okv := okv) (l := r) ?_ h; cases col <;> simp only [colsOk, Bool.and_eq_true] at ho <;> first | exact ho.2 | exact ho | (cases ho; done)
theorem col_ent {e e' : Env} {pr : Nat -> E} {okv : Nat -> Bool} {σ : Nat -> Nat} (hn : Nexts e e' pr okv) {l : List Col} (ho : colsOk okv l = true) {col : Col} (hm : col ∈ l) (i : Int) : SV.ent e e' σ (col.at (.il i)) (col.at (.il i)) := by
  cases col with
  | int k c => exact ⟨rfl, by simp only [E.den, hn.fn]⟩
  | bool c => show _ = _; simp only [E.den, hn.fn]
  | str c => show _ = _; simp only [E.den, hn.fn]
  | val c => show e.val c _ = e'.val c _; rw [hn.val c (colsOk_mem ho hm)]; rfl
  | dsl ks c => exact ⟨rfl, by simp only [E.den, hn.fn]⟩
  | tc k x j => exact absurd hm (colsOk_tc ho)
theorem dcell_ent {e e' : Env} {σ : Nat -> Nat} {x y : E} (h : x.den e = y.den e') : ∀ {k : DK}, SV.ent e e' σ (dcellS k x) (dcellS k y)
  | .int _ => ⟨rfl, by rw [h]⟩
  | .bool => by show _ = _; rw [h]
  | .str => by show _ = _; rw [h]
  | .sl _ => ⟨rfl, by rw [h]⟩
  | .fp _ => ⟨rfl, rfl, fun m => by rw [h]; rfl⟩
  | .ifc _ k => ⟨rfl, dcell_ent h (k := k)⟩
  | .nilm => trivial
  | .ap _ => ⟨rfl, rfl, by rw [h]⟩
theorem col_entP {e e' : Env} {pr : Nat -> E} {okv : Nat -> Bool} {σ : Nat -> Nat} (hn : Nexts e e' pr okv) {a b : Col} (h : a.sameP pr okv b = true) (i : Int) : SV.ent e e' σ (a.at (.il i)) (b.at (.il i)) := by
  have main : ∀ {a b : Col}, a.same b = true -> (∀ c, a ≠ .val c) -> SV.ent e e' σ (a.at (.il i)) (b.at (.il i)) := by
    intro a b h hv; have := Col.same_eq h; subst this; cases a with
    | int k c => exact ⟨rfl, by simp only [E.den, hn.fn]⟩
    | bool c => show _ = _; simp only [E.den, hn.fn]
    | str c => show _ = _; simp only [E.den, hn.fn]
    | val c => exact absurd rfl (hv c)
    | dsl ks c => exact ⟨rfl, by simp only [E.den, hn.fn]⟩
    | tc k x j => simp only [Col.same] at h; cases h
  unfold Col.sameP at h; split at h
  . simp only [Bool.and_eq_true] at h; rw [DK.same_eq h.1.1, Nat.eq_of_beq_eq_true h.2]; simp only [Col.at]; refine dcell_ent ?_; rw [E.same_eq h.1.2]; simp only [E.den, E.prime_den hn]
  . rw [Bool.and_eq_true] at h; rw [Nat.eq_of_beq_eq_true h.1] at *; show e.val _ _ = e'.val _ _; rw [hn.val _ h.2]; rfl
  . rename_i hnt hnv
    exact main h fun c hc => by
      subst hc; cases b <;> simp only [Col.same] at h <;> first | (cases h; done) | skip
      exact hnv _ _ rfl rfl
theorem colsSameP_get {pr : Nat -> E} {okv : Nat -> Bool} : ∀ {l m : List Col} {j : Nat} {b : Col}, colsSameP pr okv l m = true -> m[j]? = some b -> ∃ a, l[j]? = some a /\ a.sameP pr okv b = true
  | [], [], j, b, _, h => by simp at h
  | [], _ :: _, _, _, h, _ => by cases h
  | _ :: _, [], _, _, h, _ => by cases h
  | a :: l, b :: m, j, c, h, hj => by
    simp only [colsSameP, Bool.and_eq_true] at h; cases j with
    | zero => simp at hj; subst hj; exact ⟨a, rfl, h.1⟩
    | succ j => obtain ⟨x, h1, h2⟩ := colsSameP_get h.2 (by simpa using hj); exact ⟨x, by simpa using h1, h2⟩
section
variable {e e' : Env} {pr : Nat -> E} {okv : Nat -> Bool} {σ : Nat -> Nat}
theorem treeC_ok {k : DK} {t y : E} {x : SV} {l : List Ob} (h : treeC k t x = some l) (ht : AllT e l) (hy : t.den e = y.den e') : SV.ent e e' σ x (dcellS k y) := by
  cases k with
  | fp ks =>
    cases x with
    | dptr ks' a i j =>
      cases j with
      | succ j => cases h
      | zero =>
        simp only [treeC] at h; cases hk : ks'.same ks with
        | false => rw [hk] at h; cases h
        | true =>
          rw [hk] at h; simp only [cond_true, Option.some.injEq] at h; subst h; refine ⟨DKs.same_eq hk, rfl, fun m => ?_⟩; have h1 := oblT_ok ht; have h2 : ((rowE a i).den e).at 0 m = (t.den e).at 0 m := by unfold Dv.at; rw [h1]
          rw [rowE_at, hy] at h2; exact h2
    | _ => cases h
  | ifc ty k =>
    cases x with
    | ifc ty' x =>
      simp only [treeC] at h; cases hk : Nat.beq ty' ty with
      | false => rw [hk] at h; cases h
      | true =>
        rw [hk] at h; exact ⟨Nat.eq_of_beq_eq_true hk, treeC_ok (k := k) h ht hy⟩
    | _ => cases h
  | nilm =>
    cases x with
    | nilmap => trivial
    | _ => cases h
  | ap T =>
    cases x with
    | nilp =>
      simp only [treeC, Option.some.injEq] at h; subst h; have h1 : ((ltE t (.il 0)).den e).B = true := ht _ (List.mem_singleton.2 rfl); rw [ltE_iff, hy] at h1; exact ⟨rfl, h1⟩
    | apt T' a j =>
      cases j with
      | succ j => cases h
      | zero =>
        simp only [treeC] at h; cases hk : Nat.beq T' T with
        | false => rw [hk] at h; cases h
        | true =>
          rw [hk] at h; simp only [cond_true, Option.some.injEq] at h; subst h; exact ⟨Nat.eq_of_beq_eq_true hk, rfl, by rw [oblI_ok ht, hy]⟩
    | _ => cases h
  | int k =>
    cases x <;> simp only [treeC] at h <;> try (cases h; done)
    rename_i k' a; cases hk : kSame k' k with
    | false => rw [hk] at h; cases h
    | true =>
      rw [hk] at h; simp only [cond_true, Option.some.injEq] at h; subst h; refine ⟨kSame_eq' hk, ?_⟩; rw [oblI_ok ht, hy]
  | bool =>
    cases x <;> simp only [treeC] at h <;> try (cases h; done)
    simp only [Option.some.injEq] at h; subst h; show _ = _; rw [oblB_ok ht, hy]
  | str =>
    cases x <;> simp only [treeC] at h <;> try (cases h; done)
    simp only [Option.some.injEq] at h; subst h; show _ = _; rw [oblS_ok ht, hy]
  | sl ks =>
    cases x <;> simp only [treeC] at h <;> try (cases h; done)
    . simp only [Option.some.injEq] at h; subst h; show (y.den e').T = []; rw [<- hy, <- oblT_ok ht]; rfl
    . rename_i ks' a; cases hk : ks'.same ks with
      | false => rw [hk] at h; cases h
      | true =>
        rw [hk] at h; simp only [cond_true, Option.some.injEq] at h; subst h; exact ⟨DKs.same_eq hk, by rw [oblT_ok ht, hy]⟩
theorem cellObl_ok (hn : Nexts e e' pr okv) {c : Col} {x : SV} {ix : E} {z : Int} (hz : (ix.den e).I = z) {l : List Ob} (h : cellObl pr c x ix = some l) (ht : AllT e l) : SV.ent e e' σ x (c.at (.il z)) := by
  have hfn : ∀ c, (E.fn c ix).den e = (E.fn c (.il z)).den e' := fun c => by simp only [E.den, hz, hn.fn]; rfl
  cases c with
  | int k c => exact treeC_ok (k := .int k) h ht (hfn c)
  | bool c => exact treeC_ok (k := .bool) h ht (hfn c)
  | str c => exact treeC_ok (k := .str) h ht (hfn c)
  | dsl ks c => exact treeC_ok (k := .sl ks) h ht (hfn c)
  | tc k y j =>
    refine treeC_ok h ht ?_; simp only [E.den, E.prime_den hn, O2.den, hz]; rfl
  | val c => cases h
theorem rowObl_ok (hn : Nexts e e' pr okv) {ix : E} {z : Int} (hz : (ix.den e).I = z) : ∀ {cols : List Col} {t : List SV} {l : List Ob}, rowObl pr cols t ix = some l -> AllT e l ->
    ∀ (j : Nat) (col : Col), cols[j]? = some col -> ∃ x, t[j]? = some x /\ SV.ent e e' σ x (col.at (.il z))
  | [], t, l, _, _, j, col, hj => by simp at hj
  | c :: cs, [], l, h, _, _, _, _ => by simp [rowObl] at h
  | c :: cs, x :: xs, l, h, ht, j, col, hj => by
    simp only [rowObl] at h; obtain ⟨l1, l2, h1, h2, rfl⟩ := obl2_some h; obtain ⟨t1, t2⟩ := allT_append.1 ht; cases j with
    | zero =>
      simp at hj; subst hj; exact ⟨x, rfl, cellObl_ok hn hz h1 t1⟩
    | succ j =>
      obtain ⟨y, hy, hent⟩ := rowObl_ok hn hz h2 t2 j col (by simpa using hj)
      exact ⟨y, by simpa using hy, hent⟩
theorem tailObl_ok (hn : Nexts e e' pr okv) {cols : List Col} {len : E} : ∀ {tail : List (List SV)} {k0 : Nat} {l : List Ob}, tailObl pr cols len k0 tail = some l -> AllT e l ->
    ∀ (j : Nat) (col : Col), cols[j]? = some col -> ∀ (k : Nat) (t : List SV), tail[k]? = some t -> ∃ x, t[j]? = some x /\ SV.ent e e' σ x (col.at (.il ((len.den e).I + (k0 + k : Nat))))
  | [], k0, l, _, _, j, col, hj, k, t, hk => by simp at hk
  | u :: r, k0, l, h, ht, j, col, hj, k, t, hk => by
    simp only [tailObl] at h; obtain ⟨l1, l2, h1, h2, rfl⟩ := obl2_some h; obtain ⟨t1, t2⟩ := allT_append.1 ht; cases k with
    | zero =>
      simp at hk; subst hk; exact rowObl_ok hn (z := (len.den e).I + (k0 + 0 : Nat)) (by rw [addI_I]; rfl) h1 t1 j col hj
    | succ k =>
      have := tailObl_ok hn h2 t2 j col hj k t (by simpa using hk)
      rw [show k0 + 1 + k = k0 + (k + 1) by omega] at this
      exact this
end
def dksT (P : Program) (T : TypeId) : Option DKs := (flatT P 10 T).bind dksOf
def baseC (ks : DKs) (len : E) (cols : List Col) : Option (E × List Ob) :=
  match headE cols with
  | some e => cond (projC ks e 0 cols) (some (cond (len.same (mk1 .tlen e)) (e, []) (.o2 .ttake e len, [.e (leE (.il 0) len), .e (leE len (mk1 .tlen e))]))) none
  | none => cond (cols.isEmpty && isNought len) (some (.il 0, [])) none
section
variable {env : Env} {ρ : PMap}
theorem baseC_ok {ks : DKs} {len e : E} {cols : List Col} {obs : List Ob} {base : Nat -> Option Value} (h : baseC ks len cols = some (e, obs)) (ht : AllT env obs) (hk : 0 < ks.len)
    (hb : ∀ (i : Nat), i < (len.den env).I.toNat -> ∀ (j : Nat) (col : Col), cols[j]? = some col -> ∃ v, base (i * ks.len + j) = some v /\ (col.at (.il i)).Rel env ρ v) :
    (len.den env).I = (e.den env).T.length /\ ∀ i, i < (e.den env).T.length -> ks.Rel ρ.fz (fun j => (e.den env).at i j) (fun j => base (i * ks.len + j)) 0 := by
  unfold baseC at h; split at h
  . rename_i x hx; cases hp : projC ks x 0 cols with
    | false => rw [hp] at h; cases h
    | true =>
      rw [hp] at h; simp only [cond_true, Option.some.injEq] at h
      have row : ∀ i, i < (len.den env).I.toNat -> ks.Rel ρ.fz (fun j => (x.den env).at i j) (fun j => base (i * ks.len + j)) 0 := fun i hi =>
        (projC_ok (i := i) (f := fun j => base (i * ks.len + j)) hp fun m col hm => by
          obtain ⟨v, h1, h2⟩ := hb i hi m col hm
          exact ⟨v, by show base (i * ks.len + (0 + m)) = _; rw [Nat.zero_add]; exact h1, h2⟩).1
      cases hs : len.same (mk1 .tlen x) with
      | true =>
        rw [hs] at h; simp only [cond_true, Prod.mk.injEq] at h; obtain ⟨rfl, rfl⟩ := h; have hlen : (len.den env).I = (x.den env).T.length := by rw [E.same_eq hs, mk1_den]; rfl
        exact ⟨hlen, fun i hi => row i (by omega)⟩
      | false =>
        rw [hs] at h; simp only [cond_false, Prod.mk.injEq] at h; obtain ⟨rfl, rfl⟩ := h; have h0 : ((leE (.il 0) len).den env).B = true := ht _ (List.mem_cons_self ..); have h1 : ((leE len (mk1 .tlen x)).den env).B = true := ht _ (List.mem_cons_of_mem _ (List.mem_cons_self ..)); rw [leE_iff] at h0 h1; rw [mk1_den] at h1; have h0 : (0 : Int) <= (len.den env).I := h0; have h1 : (len.den env).I <= ((x.den env).T.length : Int) := h1; have hT : ((E.o2 .ttake x len).den env).T = (x.den env).T.take (len.den env).I.toNat := rfl; have hTl : ((E.o2 .ttake x len).den env).T.length = (len.den env).I.toNat := by rw [hT, List.length_take]; omega
        refine ⟨by rw [hTl]; omega, fun i hi => ?_⟩
        rw [hTl] at hi
        have e1 : (fun j => ((E.o2 .ttake x len).den env).at i j) = fun j => (x.den env).at i j := by
          funext j
          unfold Dv.at; rw [hT, List.getElem?_take_of_lt hi]
        rw [e1]; exact row i hi
  . cases hc : (cols.isEmpty && isNought len) with
    | false => rw [hc] at h; cases h
    | true =>
      rw [hc] at h; simp only [cond_true, Option.some.injEq, Prod.mk.injEq] at h; obtain ⟨rfl, rfl⟩ := h; rw [Bool.and_eq_true] at hc
      have h0 : (len.den env).I = 0 := by
        have := hc.2; unfold isNought at this; split at this
        . rfl
        . cases this
      exact ⟨by rw [h0]; rfl, fun i hi => absurd hi (Nat.not_lt_zero i)⟩
end
def colKs : List Col -> Option DKs
  | [] => some .nil
  | .tc k _ _ :: r => (colKs r).map (.cons k)
  | _ :: _ => none
def wholeR (pr : Nat -> E) (len : E) (cols : List Col) (tail : List (List SV)) (sz : Nat) (len' : E) (cols' : List Col) : Option (List Ob) :=
  match headE cols', colKs cols' with
  | some x, some ks =>
    cond (projC ks x 0 cols' && len'.same (mk1 .tlen x) && Nat.beq ks.len sz && Nat.blt 0 sz)
      (match baseC ks len cols, tailC ks tail with
      | some (b, obs), some t => some (obs ++ [.t (tcatE b t) (x.prime pr)])
      | _, _ => none) none
  | _, _ => none
theorem projC_get {e : E} : ∀ {ks : DKs} {j m : Nat} {cols : List Col} {col : Col}, projC ks e j cols = true -> cols[m]? = some col -> ∃ k, ks.get m = some k /\ col = .tc k e (j + m)
  | .nil, j, m, [], _, _, hm => by simp at hm
  | .nil, _, _, _ :: _, _, h, _ => by cases h
  | .cons _ _, _, _, [], _, h, _ => by cases h
  | .cons k r, j, m, c :: cs, col, h, hm => by
    cases c with
    | tc k' e' j' =>
      simp only [projC, Bool.and_eq_true] at h; obtain ⟨⟨⟨h1, h2⟩, h3⟩, h4⟩ := h; cases m with
      | zero =>
        simp only [List.getElem?_cons_zero, Option.some.injEq] at hm; subst hm; exact ⟨k, rfl, by rw [<- DK.same_eq h1, <- E.same_eq h2, <- Nat.eq_of_beq_eq_true h3]; rfl⟩
      | succ m =>
        obtain ⟨k2, g1, g2⟩ := projC_get h4 (by simpa using hm)
        exact ⟨k2, g1, by rw [g2, show j + 1 + m = j + (m + 1) by omega]⟩
    | _ => cases h
theorem projC_len {e : E} : ∀ {ks : DKs} {j : Nat} {cols : List Col}, projC ks e j cols = true -> cols.length = ks.len
  | .nil, j, [], _ => rfl
  | .nil, _, _ :: _, h => by cases h
  | .cons _ _, _, [], h => by cases h
  | .cons k r, j, c :: cs, h => by
    cases c with
    | tc k' e' j' =>
      simp only [projC, Bool.and_eq_true] at h; simp [DKs.len, projC_len h.2]
    | _ => cases h
section
variable {e e' : Env} {pr : Nat -> E} {okv : Nat -> Bool} {σ : Nat -> Nat}
theorem celC_ent : ∀ {k : DK} {x : SV} {a y : E}, celC k x = some a -> a.den e = y.den e' -> SV.ent e e' σ x (dcellS k y) := by
  intro k x a y h hy; cases k with
  | int k =>
    cases x <;> simp only [celC] at h <;> try (cases h; done)
    rename_i k' a'; cases hk : kSame k k' with
    | false => rw [hk] at h; cases h
    | true =>
      rw [hk] at h; simp only [cond_true, Option.some.injEq] at h; subst h; exact ⟨(kSame_eq' hk).symm, by rw [hy]⟩
  | bool => cases x <;> simp only [celC] at h <;> try (cases h; done)
            simp only [Option.some.injEq] at h; subst h; show _ = _; rw [hy]
  | str => cases x <;> simp only [celC] at h <;> try (cases h; done)
           simp only [Option.some.injEq] at h; subst h; show _ = _; rw [hy]
  | sl ks =>
    cases x <;> simp only [celC] at h <;> try (cases h; done)
    . simp only [Option.some.injEq] at h; subst h; show (y.den e').T = []; rw [<- hy]; rfl
    . rename_i ks' a'; cases hk : ks.same ks' with
      | false => rw [hk] at h; cases h
      | true =>
        rw [hk] at h; simp only [cond_true, Option.some.injEq] at h; subst h; exact ⟨(DKs.same_eq hk).symm, by rw [hy]⟩
    . rename_i ks' a'; cases hk : ks.same ks' with
      | false => rw [hk] at h; cases h
      | true =>
        rw [hk] at h; simp only [cond_true, Option.some.injEq] at h; subst h; exact ⟨(DKs.same_eq hk).symm, by rw [hy]⟩
  | fp ks =>
    cases x with
    | dptr ks' c i j =>
      cases j with
      | succ j => cases h
      | zero =>
        simp only [celC] at h; cases hk : ks.same ks' with
        | false => rw [hk] at h; cases h
        | true =>
          rw [hk] at h; simp only [cond_true, Option.some.injEq] at h; subst h; exact ⟨(DKs.same_eq hk).symm, rfl, fun m => by rw [<- rowE_at, hy]; rfl⟩
    | _ => cases h
  | ifc t k =>
    cases x with
    | ifc t' x =>
      simp only [celC] at h; cases hk : Nat.beq t t' with
      | false => rw [hk] at h; cases h
      | true =>
        rw [hk] at h; exact ⟨(Nat.eq_of_beq_eq_true hk).symm, celC_ent (k := k) h hy⟩
    | _ => cases h
  | nilm =>
    cases x with
    | nilmap => trivial
    | _ => cases h
  | ap T =>
    cases x with
    | nilp =>
      simp only [celC, Option.some.injEq] at h; subst h; refine ⟨rfl, ?_⟩; rw [<- hy]; show (-1 : Int) < 0; decide
    | apt T' c j =>
      cases j with
      | succ j => cases h
      | zero =>
        simp only [celC] at h; cases hk : Nat.beq T T' with
        | false => rw [hk] at h; cases h
        | true =>
          rw [hk] at h; simp only [cond_true, Option.some.injEq] at h; subst h; exact ⟨(Nat.eq_of_beq_eq_true hk).symm, rfl, by rw [hy]⟩
    | _ => cases h
theorem rowC_get : ∀ {ks : DKs} {t : List SV} {a : E}, rowC ks t = some a -> t.length = ks.len /\ (0 < ks.len -> (a.den e).T.length = 1) /\ ∀ (j : Nat) (k : DK), ks.get j = some k -> ∃ x y, t[j]? = some x /\ celC k x = some y /\ ((a.den e).T.head?.getD [])[j]? = some (y.den e)
  | .nil, [], a, h => by
    simp only [rowC, Option.some.injEq] at h; exact ⟨rfl, fun h => absurd h (Nat.lt_irrefl 0), fun j k hk => by simp [DKs.get] at hk⟩
  | .nil, _ :: _, _, h => by cases h
  | .cons _ _, [], _, h => by cases h
  | .cons k r, x :: xs, a, h => by
    simp only [rowC] at h; split at h
    . rename_i b c h1 h2; injection h with h; subst h; obtain ⟨g1, _, g2⟩ := rowC_get h2; refine ⟨by simp [DKs.len, g1], fun _ => rfl, fun j k' hk => ?_⟩
      cases j with
      | zero =>
        simp only [DKs.get, Option.some.injEq] at hk; subst hk; exact ⟨x, b, rfl, h1, rfl⟩
      | succ j =>
        simp only [DKs.get] at hk; obtain ⟨x', y, a1, a2, a3⟩ := g2 j k' hk; exact ⟨x', y, by simpa using a1, a2, a3⟩
    . cases h
theorem tailC_get {ks : DKs} (h0 : 0 < ks.len) : ∀ {tail : List (List SV)} {a : E}, tailC ks tail = some a -> (a.den e).T.length = tail.length /\ ∀ (m : Nat) (t : List SV), tail[m]? = some t -> ∀ (j : Nat) (k : DK), ks.get j = some k -> ∃ x y, t[j]? = some x /\ celC k x = some y /\ y.den e = (a.den e).at m j
  | [], a, h => by
    simp only [tailC, Option.some.injEq] at h; subst h; exact ⟨rfl, fun m t hm => by simp at hm⟩
  | t :: r, a, h => by
    simp only [tailC] at h; split at h
    . rename_i b c h1 h2; injection h with h; subst h; obtain ⟨_, g1, g2⟩ := rowC_get (e := e) h1; obtain ⟨k1, k2⟩ := tailC_get h0 h2; have hb := g1 h0
      obtain ⟨l, hl⟩ : ∃ l, (b.den e).T = [l] := by
        match hq : (b.den e).T, hb with
        | [l], _ => exact ⟨l, rfl⟩
      have hT : ((tcatE b c).den e).T = l :: (c.den e).T := by rw [tcatE_T, hl]; rfl
      refine ⟨by rw [hT, List.length_cons, k1, List.length_cons], fun m u hm j k hk => ?_⟩
      cases m with
      | zero =>
        simp only [List.getElem?_cons_zero, Option.some.injEq] at hm; subst hm; obtain ⟨x, y, a1, a2, a3⟩ := g2 j k hk; refine ⟨x, y, a1, a2, ?_⟩; unfold Dv.at; rw [hT]; rw [hl] at a3; show y.den e = (l[j]?).getD (.i 0); have a3 : l[j]? = some (y.den e) := a3; rw [a3]; rfl
      | succ m =>
        obtain ⟨x, y, a1, a2, a3⟩ := k2 m u (by simpa using hm) j k hk
        refine ⟨x, y, a1, a2, ?_⟩; rw [a3]; unfold Dv.at; rw [hT]; rfl
    . cases h
theorem baseC_get {ks : DKs} {len b : E} {cols : List Col} {obs : List Ob} (h : baseC ks len cols = some (b, obs)) (ht : AllT e obs) :
    (len.den e).I = (b.den e).T.length /\ ∀ i, i < (b.den e).T.length -> ∀ (j : Nat) (k : DK), ks.get j = some k -> ∃ x, cols[j]? = some (.tc k x j) /\ (x.den e).at i j = (b.den e).at i j := by
  have get2 : ∀ {x : E} {j : Nat} {k : DK}, projC ks x 0 cols = true -> ks.get j = some k -> cols[j]? = some (.tc k x j) := by
    intro x j k hp hk
    have hlt : j < cols.length := by
      rw [projC_len hp]
      have : ∀ {ks : DKs} {j : Nat} {k : DK}, ks.get j = some k -> j < ks.len := by
        intro ks
        induction ks using DKs.rec (motive_1 := fun _ => True) with
        | nil => intro j k h; simp [DKs.get] at h
        | cons k0 r _ ih =>
          intro j k h; cases j with
          | zero => exact Nat.succ_pos _
          | succ j => simp only [DKs.get] at h; have := ih h; simp only [DKs.len]; omega
        | _ => trivial
      exact this hk
    obtain ⟨k', g1, g2⟩ := projC_get (m := j) hp (List.getElem?_eq_getElem hlt); rw [hk] at g1; injection g1 with g1; subst g1; rw [List.getElem?_eq_getElem hlt, g2, Nat.zero_add]
  unfold baseC at h; split at h
  . rename_i x hx; cases hp : projC ks x 0 cols with
    | false => rw [hp] at h; cases h
    | true =>
      rw [hp] at h; simp only [cond_true, Option.some.injEq] at h; cases hs : len.same (mk1 .tlen x) with
      | true =>
        rw [hs] at h; simp only [cond_true, Prod.mk.injEq] at h; obtain ⟨rfl, rfl⟩ := h; exact ⟨by rw [E.same_eq hs, mk1_den]; rfl, fun i hi j k hk => ⟨x, get2 hp hk, rfl⟩⟩
      | false =>
        rw [hs] at h; simp only [cond_false, Prod.mk.injEq] at h; obtain ⟨rfl, rfl⟩ := h; have h0 : ((leE (.il 0) len).den e).B = true := ht _ (List.mem_cons_self ..); have h1 : ((leE len (mk1 .tlen x)).den e).B = true := ht _ (List.mem_cons_of_mem _ (List.mem_cons_self ..)); rw [leE_iff] at h0 h1; rw [mk1_den] at h1; have h0 : (0 : Int) <= (len.den e).I := h0; have h1 : (len.den e).I <= ((x.den e).T.length : Int) := h1; have hT : ((E.o2 .ttake x len).den e).T = (x.den e).T.take (len.den e).I.toNat := rfl; have hTl : ((E.o2 .ttake x len).den e).T.length = (len.den e).I.toNat := by rw [hT, List.length_take]; omega
        refine ⟨by rw [hTl]; omega, fun i hi j k hk => ⟨x, get2 hp hk, ?_⟩⟩
        rw [hTl] at hi; unfold Dv.at; rw [hT, List.getElem?_take_of_lt hi]
  . cases hc : (cols.isEmpty && isNought len) with
    | false => rw [hc] at h; cases h
    | true =>
      rw [hc] at h; simp only [cond_true, Option.some.injEq, Prod.mk.injEq] at h; obtain ⟨rfl, rfl⟩ := h; rw [Bool.and_eq_true] at hc
      have h0 : (len.den e).I = 0 := by
        have := hc.2; unfold isNought at this; split at this
        . rfl
        . cases this
      exact ⟨by rw [h0]; rfl, fun i hi => absurd hi (Nat.not_lt_zero i)⟩
theorem wholeR_ok (hn : Nexts e e' pr okv) {T sz : Nat} {len len' : E} {cols cols' : List Col} {tail : List (List SV)} {l : List Ob} (h : wholeR pr len cols tail sz len' cols' = some l) (ht : AllT e l) (hle : cols'.length <= sz) :
    SObj.ent e e' σ (.row T sz len cols tail) (.row T sz len' cols' []) := by
  unfold wholeR at h; split at h
  . rename_i x ks hx hks; cases hc : (projC ks x 0 cols' && len'.same (mk1 .tlen x) && Nat.beq ks.len sz && Nat.blt 0 sz) with
    | false => rw [hc] at h; cases h
    | true =>
      rw [hc] at h; simp only [cond_true] at h; simp only [Bool.and_eq_true, Nat.beq_eq] at hc; obtain ⟨⟨⟨hp, hlen⟩, hsz⟩, hpos⟩ := hc; unfold Nat.blt at hpos; have hpos : 0 < ks.len := by rw [hsz]; exact Nat.le_of_ble_eq_true hpos
      split at h
      . rename_i b obs t hb htl; injection h with h; subst h; obtain ⟨t1, t2⟩ := allT_append.1 ht; obtain ⟨b1, b2⟩ := baseC_get hb t1; obtain ⟨c1, c2⟩ := tailC_get (e := e) hpos htl
        have hT : (x.den e').T = (b.den e).T ++ (t.den e).T := by
          have h2 : ((tcatE b t).den e).T = ((x.prime pr).den e).T := t2 _ (List.mem_cons_self ..); rw [E.prime_den hn, tcatE_T] at h2; exact h2.symm
        have hL : (len'.den e').I = (len.den e).I + tail.length := by
          have e1 : (len'.den e').I = ((x.den e').T.length : Int) := by rw [E.same_eq hlen, mk1_den]; rfl
          rw [e1, hT, List.length_append, c1, b1]; omega
        refine ⟨rfl, rfl, rfl, by rw [b1]; omega, hL, hle, fun j col' hj => ?_⟩
        obtain ⟨k, k1, k2⟩ := projC_get hp hj; rw [Nat.zero_add] at k2; subst k2; refine ⟨fun i hi => ?_, fun m u hm => ?_⟩
        . obtain ⟨y, y1, y2⟩ := b2 i (by omega) j k k1
          refine ⟨_, y1, ?_⟩; simp only [Col.at]; refine dcell_ent ?_; show (y.den e).at (i : Int).toNat j = (x.den e').at (i : Int).toNat j; rw [Int.toNat_natCast, y2]; unfold Dv.at; rw [hT, List.getElem?_append_left (by omega)]
        . obtain ⟨x1, y, a1, a2, a3⟩ := c2 m u hm j k k1; refine ⟨x1, a1, ?_⟩; simp only [Col.at]; refine celC_ent a2 ?_; show y.den e = (x.den e').at ((len.den e).I + (m : Int)).toNat j; rw [a3, b1]; have e2 : (((b.den e).T.length : Int) + (m : Int)).toNat = (b.den e).T.length + m := by omega
          rw [e2]; unfold Dv.at; rw [hT, List.getElem?_append_right (by omega), Nat.add_sub_cancel_left]
      . cases h
  . cases h
end
def colsE : List Col -> E
  | .tc _ a _ :: _ => a
  | _ => .il 0
def colsTc : DKs -> E -> Nat -> List Col -> Bool
  | .nil, _, _, [] => true
  | .cons k r, a, j, .tc k' b i :: l => k.same k' && b.same a && Nat.beq i j && colsTc r a (j + 1) l
  | _, _, _, _ => false
theorem colsTc_eq : ∀ {ks : DKs} {a : E} {j : Nat} {l : List Col}, colsTc ks a j l = true -> l = tcCols ks a j
  | .nil, _, _, [], _ => rfl
  | .nil, _, _, _ :: _, h => by simp [colsTc] at h
  | .cons _ _, _, _, [], h => by simp [colsTc] at h
  | .cons k r, a, j, c :: l, h => by
    cases c <;> simp only [colsTc, Bool.false_eq_true] at h; simp only [Bool.and_eq_true, Nat.beq_eq] at h; obtain ⟨⟨⟨h1, h2⟩, h3⟩, h4⟩ := h; rw [<- DK.same_eq h1, E.same_eq h2, h3, colsTc_eq h4]; rfl
def objC (pr : Nat -> E) (okv : Nat -> Bool) (σ : Nat -> Nat) (o o' : SObj) : Option (List Ob) :=
  match o, o' with
  | .cells T cs, .cells T' cs' => cond (Nat.beq T T') (entCs pr okv σ cs cs') none
  | .row T sz len cols tail, .row T' sz' len' cols' [] =>
    cond (Nat.beq T T' && Nat.beq sz sz' && Nat.ble cols'.length sz)
      (cond (isNought len || colsSameP pr okv cols cols')
        (obl2 (some (.e (.o2 .le (.il 0) len) :: oblI (len'.prime pr) (addI len (.il (tail.length : Nat))))) (tailObl pr cols' len 0 tail))
        (wholeR pr len cols tail sz len' cols')) none
  | .inp sz len cols, .inp sz' len' cols' => cond (Nat.beq sz sz' && colsSame cols cols' && colsOk okv cols) (some (oblI len (len'.prime pr))) none
  | .map m ix kk sz known, .map m' ix' kk' sz' known' => cond (kkSame kk kk' && knownNoval known' && known'.all (fun p => keyOk kk p.1)) (some (oblI sz (sz'.prime pr) ++ mpObl kk m ix known m' (ix'.prime pr) (knownRen σ pr known'))) none
  | .chan a, .chan b => some (oblB a (b.prime pr))
  | .ar T ks a, .ar T' ks' b => cond (Nat.beq T T' && ks.same ks') (some (oblT a (b.prime pr))) none
  | .dmp kk ag ks a it, .dmp kk' ag' ks' b it' => cond (kkSame kk kk' && (cond ag ag' (!ag')) && ks.same ks' && itC σ it it') (some (oblP a (b.prime pr))) none
  | .bag T ks a, .bag T' ks' b => cond (Nat.beq T T' && ks.same ks') (some (oblP a (b.prime pr))) none
  | .row T sz len cols [], .bag T' ks b => cond (Nat.beq T T' && Nat.beq sz ks.len && Nat.ble 1 sz && colsTc ks (colsE cols) 0 cols) (some (oblI len (mk1 .tlen (colsE cols)) ++ oblP (colsE cols) (b.prime pr))) none
  | .itr m kk a, .itr m' kk' b => cond (kkSame kk kk' && Nat.beq m (σ m')) (some (oblT a (b.prime pr))) none
  | .map _ _ kk sz _, .dmp kk' _ _ b it' => cond (kkSame kk kk' && it'.isNone) (some (oblI sz (.il 0) ++ oblT (.il 0) (b.prime pr))) none
  | _, _ => none
section
variable {e e' : Env} {pr : Nat -> E} {okv : Nat -> Bool} {σ : Nat -> Nat}
theorem objC_ok (hn : Nexts e e' pr okv) {o o' : SObj} {l : List Ob} (h : objC pr okv σ o o' = some l) (ht : AllT e l) : entO e e' σ o o' := by
  unfold objC at h; split at h
  . rename_i T cs T' cs'; cases hb : Nat.beq T T' with
    | false => rw [hb] at h; cases h
    | true => rw [hb] at h; exact ⟨rfl, Nat.eq_of_beq_eq_true hb, entCs_ok hn h ht⟩
  . rename_i T sz len cols tail T' sz' len' cols'; cases hb : (Nat.beq T T' && Nat.beq sz sz' && Nat.ble cols'.length sz) with
    | false => rw [hb] at h; cases h
    | true =>
      rw [hb] at h; simp only [cond_true] at h; simp only [Bool.and_eq_true, Nat.beq_eq] at hb; obtain ⟨⟨hT, hsz⟩, hle⟩ := hb; cases hcols : (isNought len || colsSameP pr okv cols cols') with
      | false =>
        rw [hcols] at h; exact ⟨rfl, by subst hT; subst hsz; exact wholeR_ok hn h ht (Nat.le_of_ble_eq_true hle)⟩
      | true =>
        rw [hcols] at h; simp only [cond_true] at h; obtain ⟨l1, l2, h1, h2, rfl⟩ := obl2_some h; obtain ⟨t1, t2⟩ := allT_append.1 ht; injection h1 with h1; subst h1
        have h0 : 0 <= (len.den e).I := by
          have this : ((E.o2 .le (.il 0) len).den e).B = true := t1 _ (List.mem_cons_self ..); rw [B_le] at this; exact of_decide_eq_true this
        have hl : (len'.den e').I = (len.den e).I + tail.length := by
          have := oblI_ok (fun x hx => t1 x (List.mem_cons_of_mem _ hx)); rw [E.prime_den hn, addI_I] at this; exact this
        refine ⟨rfl, hT, hsz, rfl, h0, hl, Nat.le_of_ble_eq_true hle, fun j col' hj => ⟨fun i hi => ?_, fun k t hk => ?_⟩⟩
        . rw [Bool.or_eq_true] at hcols; rcases hcols with hz | hs
          . have : (len.den e).I = 0 := by
              unfold isNought at hz; split at hz
              . rfl
              . cases hz
            omega
          . obtain ⟨col, h1, h2⟩ := colsSameP_get hs hj; exact ⟨col, h1, col_entP hn h2 i⟩
        . have := tailObl_ok hn h2 t2 (σ := σ) j col' hj k t hk; rw [Nat.zero_add] at this; exact this
  . rename_i sz len cols sz' len' cols'; cases hb : (Nat.beq sz sz' && colsSame cols cols' && colsOk okv cols) with
    | false => rw [hb] at h; cases h
    | true =>
      rw [hb] at h; simp only [cond_true, Option.some.injEq] at h; subst h; simp only [Bool.and_eq_true, Nat.beq_eq] at hb; exact ⟨hb.1.1, by rw [oblI_ok ht, E.prime_den hn], colsSame_eq hb.1.2, fun col hm i => col_ent hn hb.2 hm i⟩
  . rename_i m ix kk sz known m' ix' kk' sz' known'; cases hb : (kkSame kk kk' && knownNoval known' && known'.all (fun p => keyOk kk p.1)) with
    | false => rw [hb] at h; cases h
    | true =>
      rw [hb] at h; simp only [cond_true, Option.some.injEq] at h; subst h; simp only [Bool.and_eq_true] at hb; obtain ⟨⟨hb1, hb2⟩, hb3⟩ := hb; obtain ⟨t1, t2⟩ := allT_append.1 ht; obtain ⟨kv, kv', h1, h1', h2⟩ := mpObl_ok t2; rw [flK_ren hn hb2] at h1'; refine ⟨rfl, kkSame_eq hb1, fun p hp => List.all_eq_true.1 hb3 p hp, by rw [oblI_ok t1, E.prime_den hn], kv, kv', h1, h1', fun k hk => ?_⟩
      rw [h2 k hk, E.prime_den hn]
      congr 1
      unfold res; split
      . rfl
      . rw [hn.mp]
  . rename_i a b; simp only [Option.some.injEq] at h; subst h; exact ⟨rfl, by show _ = _; rw [oblB_ok ht, E.prime_den hn]⟩
  . rename_i T ks a T' ks' b; cases hb : (Nat.beq T T' && ks.same ks') with
    | false => rw [hb] at h; cases h
    | true =>
      rw [hb] at h; simp only [cond_true, Option.some.injEq] at h; subst h; simp only [Bool.and_eq_true, Nat.beq_eq] at hb; exact ⟨hb.1, DKs.same_eq hb.2, by rw [<- E.prime_den hn]; exact oblT_ok ht⟩
  . rename_i kk ag ks a it kk' ag' ks' b it'; cases hb : (kkSame kk kk' && (cond ag ag' (!ag')) && ks.same ks' && itC σ it it') with
    | false => rw [hb] at h; cases h
    | true =>
      rw [hb] at h; simp only [cond_true, Option.some.injEq] at h; subst h; simp only [Bool.and_eq_true] at hb; refine ⟨rfl, kkSame_eq hb.1.1.1, ?_, DKs.same_eq hb.1.2, by rw [<- E.prime_den hn]; exact oblP_ok ht, itC_ok hb.2⟩
      have := hb.1.1.2; cases ag <;> cases ag' <;> first | rfl | cases this
  . rename_i T ks a T' ks' b; cases hb : (Nat.beq T T' && ks.same ks') with
    | false => rw [hb] at h; cases h
    | true =>
      rw [hb] at h; simp only [cond_true, Option.some.injEq] at h; subst h; simp only [Bool.and_eq_true, Nat.beq_eq] at hb; exact ⟨rfl, hb.1, DKs.same_eq hb.2, by rw [<- E.prime_den hn]; exact oblP_ok ht⟩
  . rename_i T sz len cols T' ks b; cases hb : (Nat.beq T T' && Nat.beq sz ks.len && Nat.ble 1 sz && colsTc ks (colsE cols) 0 cols) with
    | false => rw [hb] at h; cases h
    | true =>
      rw [hb] at h; simp only [cond_true, Option.some.injEq] at h; subst h; simp only [Bool.and_eq_true, Nat.beq_eq] at hb; obtain ⟨t1, t2⟩ := allT_append.1 ht; exact ⟨rfl, hb.1.1.1, hb.1.1.2, Nat.le_of_ble_eq_true hb.1.2, rfl, _, colsTc_eq hb.2, by rw [oblI_ok t1, mk1_den]; rfl, by rw [<- E.prime_den hn]; exact oblP_ok t2⟩
  . rename_i m kk a m' kk' b; cases hb : (kkSame kk kk' && Nat.beq m (σ m')) with
    | false => rw [hb] at h; cases h
    | true =>
      rw [hb] at h; simp only [cond_true, Option.some.injEq] at h; subst h; rw [Bool.and_eq_true] at hb; exact ⟨rfl, Nat.eq_of_beq_eq_true hb.2, kkSame_eq hb.1, by rw [<- E.prime_den hn]; exact oblT_ok ht⟩
  . rename_i m ix kk sz known kk' ag ks b it'; cases hb : (kkSame kk kk' && it'.isNone) with
    | false => rw [hb] at h; cases h
    | true =>
      rw [hb] at h; simp only [cond_true, Option.some.injEq] at h; subst h; obtain ⟨t1, t2⟩ := allT_append.1 ht; rw [Bool.and_eq_true] at hb; exact ⟨rfl, kkSame_eq hb.1, by rw [oblI_ok t1]; rfl, by rw [<- E.prime_den hn, <- oblT_ok t2]; rfl, by simpa using hb.2⟩
  . cases h
end
def colsK : List Col -> Option DKs
  | [] => some .nil
  | .tc k _ _ :: r => match colsK r with | some ks => some (.cons k ks) | none => none
  | _ => none
def leftG (sz : Nat) (len : E) (ks : DKs) (e : E) : SObj := cond (Nat.blt 0 sz) (.inp sz len (tcCols ks e 0)) .gone
def frzG (kd : TypeId -> Option DKs) : SObj -> Option (DKs × Nat × E × E × List Ob)
  | .row T sz len cols tail =>
    match kd T with
    | some ks => cond (Nat.beq ks.len sz && Nat.blt 0 sz)
      (match baseC ks len cols, tailC ks tail with
      | some (e, obs), some t => some (ks, sz, tcatE e t, rowEnd len tail, obs)
      | _, _ => none) none
    | none => none
  | .cells T cs =>
    match kd T with
    | some ks =>
      match rowC ks cs with
      | some e => some (ks, 0, e, .il 1, [])
      | none => none
    | none => none
  | .inp sz len cols =>
    match colsK cols with
    | some ks => cond (Nat.beq ks.len sz && Nat.blt 0 sz && headT cols)
      (match baseC ks len cols with
      | some (e, obs) => some (ks, sz, e, len, obs)
      | none => none) none
    | none => none
  | _ => none
section
variable {P : Program} {env : Env} {w0 : Anchor} {ρ ρ' : PMap} {h : Heap} {w : World}
def FzSays (env : Env) (ρ ρ' : PMap) (n sz : Nat) (len : E) (ks : DKs) (e : E) : Prop :=
  (0 < sz -> ∀ v, (SV.sl n sz (.il 0) len).Rel env ρ v -> (SV.dsl ks e).Rel env ρ' v) /\ (sz = 0 -> ∀ j v, (SV.ptr n (.c j)).Rel env ρ v -> (SV.dptr ks e (.il 0) j).Rel env ρ' v)
theorem inpRel {sz : Nat} {ks : DKs} {e len : E} {n : Nat} {p : Pl} (hpos : 0 < ks.len) (hp : ρ n = some p) (hL : (len.den env).I = ((e.den env).T.length : Int)) (hcap : (e.den env).T.length <= p.cap) (hpb : p.base = 0) (hpn : p.nil = false) (hsz : ks.len = sz)
    (hcore : ∀ i, i < (e.den env).T.length -> ks.Rel ρ.fz (fun j => (e.den env).at i j) (fun j => fzcell ρ.fz p.block (i * ks.len + j)) 0) : (leftG sz len ks e).Rel env w0 ρ n w := by
  subst hsz; have hb : Nat.blt 0 ks.len = true := Nat.ble_eq_true_of_le hpos; unfold leftG; rw [hb]; show (SObj.inp ks.len len (tcCols ks e 0)).Rel env w0 ρ n w; refine ⟨p, hp, by rw [hL]; omega, (fun h => by rw [hpn] at h; cases h), .inr ⟨?_, hpb, hpn, fun i hi j col hc => ?_⟩⟩
  . cases ks with
    | nil => exact absurd hpos (Nat.lt_irrefl 0)
    | cons k r => rfl
  . rw [hL, Int.toNat_natCast] at hi; obtain ⟨k, h1, rfl⟩ := tcCols_get hc; obtain ⟨v, h2, h3⟩ := (hcore i hi).get h1; rw [Nat.zero_add] at h2 h3 ⊢; refine ⟨v, h2, ?_⟩; rw [Col.at, dcellS_rel]; exact h3
theorem fzSays_of {ks : DKs} {e len : E} {n sz : Nat} {p : Pl} (hpos : 0 < ks.len) (hp : ρ n = some p) (hL : (len.den env).I = ((e.den env).T.length : Int)) (hpb : p.base = 0) (hsz : ks.len = sz)
    (hcore : ∀ i, i < (e.den env).T.length -> ks.Rel ρ'.fz (fun j => (e.den env).at i j) (fun j => fzcell ρ'.fz p.block (i * ks.len + j)) 0) : FzSays env ρ ρ' n sz len ks e := by
  subst hsz; refine ⟨fun _ v hv => ?_, fun h0 => by omega⟩
  simp only [SV.Rel] at hv; obtain ⟨q, A, hq, rfl, hA1, hA2, hle2, _⟩ := hv; rw [hp] at hq; injection hq with hq; subst hq; rw [hL] at hle2 ⊢; have hz0 : ((E.il 0).den env).I.toNat = 0 := rfl; rw [hz0] at hle2 hA2 ⊢; have htn : ((e.den env).T.length : Int).toNat = (e.den env).T.length := Int.toNat_natCast _; rw [htn] at hle2 ⊢; simp only [SV.Rel, DK.Rel]; refine ⟨A, p.cap - 0, rfl, by omega, fun h0 => ?_⟩
  have hA := hA2 (by omega)
  rw [hpb, Nat.zero_mul, Nat.zero_add] at hA; exact ⟨p.block, 0, hA, fun i hi => by simpa only [Nat.zero_add] using hcore i hi⟩
theorem HSat.frzG {kd : TypeId -> Option DKs} (H : HSat env w0 ρ h w) {n sz : Nat} {o : SObj} {ks : DKs} {e len : E} {obs : List Ob} (hn : hget h n = some o) (hf : Go.Sx.frzG kd o = some (ks, sz, e, len, obs)) (ht : AllT env obs) :
    ∃ ρ', ρ.le ρ' /\ ρ'.pl = ρ.pl /\ HSat env w0 ρ' (hput h n .gone) w /\ FzSays env ρ ρ' n sz len ks e /\ (leftG sz len ks e).Rel env w0 ρ' n w := by
  cases o with
  | row T sz' l cols tail =>
    simp only [Go.Sx.frzG] at hf; split at hf
    . rename_i ks' hks; cases hc : (Nat.beq ks'.len sz' && Nat.blt 0 sz') with
      | false => rw [hc] at hf; cases hf
      | true =>
        rw [hc] at hf; simp only [cond_true] at hf; split at hf
        . rename_i e1 obs1 t h1 h2; simp only [Option.some.injEq, Prod.mk.injEq] at hf; obtain ⟨rfl, rfl, rfl, rfl, rfl⟩ := hf; simp only [Bool.and_eq_true, Nat.beq_eq] at hc; obtain ⟨hsz, hpos⟩ := hc; unfold Nat.blt at hpos; have hpos : 0 < sz' := Nat.le_of_ble_eq_true hpos; obtain ⟨p, vs, rest, hp, hpK, hpb, hpn, hrow, hlen, hw⟩ := H.objs n _ hn; obtain ⟨base, tl, rfl, hb1, hb2, htl, hts, hcl⟩ := hrow; rw [<- hsz] at hb1 hb2 hts hlen hpos; obtain ⟨g1, g2⟩ := baseC_ok (base := fun j => base[j]?) h1 ht hpos hb2; obtain ⟨k1, k2⟩ := tailC_ok hpos h2 htl hts; obtain ⟨hle, HS⟩ := H.freeze hn rfl hp hw; have hT : ((tcatE e1 t).den env).T = (e1.den env).T ++ (t.den env).T := tcatE_T _ _; have hTl : ((tcatE e1 t).den env).T.length = (e1.den env).T.length + tail.length := by rw [hT, List.length_append, k1]
          have hL : ((rowEnd l tail).den env).I = (((tcatE e1 t).den env).T.length : Int) := by
            unfold rowEnd; rw [addI_I, g1, hTl]; show _ + ((tail.length : Nat) : Int) = _; omega
          have hcore : ∀ i, i < ((tcatE e1 t).den env).T.length -> ks'.Rel (ρ.frz p.block (.cells (base ++ tl ++ rest).toArray T (0, 0))).fz (fun j => ((tcatE e1 t).den env).at i j) (fun j => fzcell (ρ.frz p.block (.cells (base ++ tl ++ rest).toArray T (0, 0))).fz p.block (0 + i * ks'.len + j)) 0 := by
            intro i hi
            have hcellV : ∀ j v, (base ++ tl)[j]? = some v -> fzcell (ρ.frz p.block (.cells (base ++ tl ++ rest).toArray T (0, 0))).fz p.block j = some v := by
              intro j v hj; show (match (if p.block = p.block then some (Obj.cells (base ++ tl ++ rest).toArray T (0, 0)) else ρ.fz p.block) with | some (.cells c _ _) => c[j]? | _ => none) = some v
              rw [if_pos rfl]; show (base ++ tl ++ rest).toArray[j]? = some v; rw [List.getElem?_toArray, List.getElem?_append_left (List.getElem?_eq_some_iff.1 hj).1]; exact hj
            by_cases hib : i < (e1.den env).T.length
            . have e4 : (fun j => ((tcatE e1 t).den env).at i j) = fun j => (e1.den env).at i j := by
                funext j
                unfold Dv.at; rw [hT, List.getElem?_append_left hib]
              rw [e4]; refine DKs.Rel.mono hle.fz (fun j v hj => ?_) (g2 i hib); refine hcellV _ v ?_; rw [Nat.zero_add, List.getElem?_append_left (List.getElem?_eq_some_iff.1 hj).1]; exact hj
            . obtain ⟨m, rfl⟩ : ∃ m, i = (e1.den env).T.length + m := ⟨i - (e1.den env).T.length, by omega⟩
              have e4 : (fun j => ((tcatE e1 t).den env).at ((e1.den env).T.length + m) j) = fun j => (t.den env).at m j := by
                funext j
                unfold Dv.at; rw [hT, List.getElem?_append_right (by omega), Nat.add_sub_cancel_left]
              rw [e4]; refine DKs.Rel.mono hle.fz (fun j v hj => ?_) (k2 m (by omega))
              refine hcellV _ v ?_; have hbl : base.length = (e1.den env).T.length * ks'.len := by rw [hb1, g1, Int.toNat_natCast]
              rw [Nat.zero_add, Nat.add_mul, List.getElem?_append_right (by rw [hbl]; omega), hbl]
              rw [show (e1.den env).T.length * ks'.len + m * ks'.len + j - (e1.den env).T.length * ks'.len = m * ks'.len + j by omega]
              exact hj
          have hcap : ((tcatE e1 t).den env).T.length <= p.cap := by
            have e9 : tl.length = tail.length * ks'.len := by rw [htl.length, flatten_len hts]
            rw [List.length_append, List.length_append, hb1, e9, g1, Int.toNat_natCast, <- Nat.add_mul] at hlen; rw [hTl]; exact Nat.le_of_mul_le_mul_right (by omega) hpos
          have hcore' : ∀ i, i < ((tcatE e1 t).den env).T.length -> ks'.Rel (ρ.frz p.block (.cells (base ++ tl ++ rest).toArray T (0, 0))).fz (fun j => ((tcatE e1 t).den env).at i j) (fun j => fzcell (ρ.frz p.block (.cells (base ++ tl ++ rest).toArray T (0, 0))).fz p.block (i * ks'.len + j)) 0 := fun i hi => by
            have := hcore i hi; simpa only [Nat.zero_add] using this
          exact ⟨_, hle, rfl, HS, fzSays_of hpos hp hL hpb hsz hcore', inpRel hpos hp hL hcap hpb hpn hsz hcore'⟩
        . cases hf
    . cases hf
  | cells T cs =>
    simp only [Go.Sx.frzG] at hf; split at hf
    . rename_i ks' hks; split at hf
      . rename_i e1 h1; simp only [Option.some.injEq, Prod.mk.injEq] at hf; obtain ⟨rfl, rfl, rfl, rfl, rfl⟩ := hf; obtain ⟨p, vs, hp, hpK, hpb, hpn, hcs, hw⟩ := H.objs n _ hn; obtain ⟨hle, HS⟩ := H.freeze hn rfl hp hw; obtain ⟨r, hr1, _, hr3⟩ := rowC_ok h1 hcs; refine ⟨_, hle, rfl, HS, ⟨fun h0 => absurd h0 (Nat.lt_irrefl 0), fun _ j v hv => ?_⟩, trivial⟩; simp only [SV.Rel] at hv ⊢; obtain ⟨q, hq, rfl⟩ := hv; rw [hp] at hq; injection hq with hq; subst hq; refine ⟨p.block, p.base, rfl, ?_⟩
        have g := hr3 (fun j => (e1.den env).at 0 j) (fun j => vs[j]?) 0 (fun m => by
          rw [Nat.zero_add]; show (((e1.den env).T[0]?).getD [])[m]?.getD (.i 0) = _
          rw [<- List.head?_eq_getElem?, hr1]) (fun m _ => by rw [Nat.zero_add])
        refine DKs.Rel.mono hle.fz (fun j v hj => ?_) g; rw [hpb, Nat.zero_add]; show (match (if p.block = p.block then some (Obj.cells vs.toArray T (0, 0)) else ρ.fz p.block) with | some (.cells c _ _) => c[j]? | _ => none) = some v
        rw [if_pos rfl]; show vs.toArray[j]? = some v; rw [List.getElem?_toArray]; exact hj
      . cases hf
    . cases hf
  | inp sz' l cols =>
    simp only [Go.Sx.frzG] at hf; split at hf
    . rename_i ks' hks; cases hc : (Nat.beq ks'.len sz' && Nat.blt 0 sz' && headT cols) with
      | false => rw [hc] at hf; cases hf
      | true =>
        rw [hc] at hf; simp only [cond_true] at hf; split at hf
        . rename_i e1 obs1 h1; simp only [Option.some.injEq, Prod.mk.injEq] at hf; obtain ⟨rfl, rfl, rfl, rfl, rfl⟩ := hf; simp only [Bool.and_eq_true, Nat.beq_eq] at hc; obtain ⟨⟨hsz, hpos⟩, hT⟩ := hc; unfold Nat.blt at hpos; have hpos : 0 < sz' := Nat.le_of_ble_eq_true hpos; obtain ⟨p, hp, hcap, _, h4⟩ := H.objs n _ hn; rcases h4 with ⟨h5, _⟩ | ⟨_, hpb, hpn, h5⟩
          . rw [hT] at h5; cases h5
          . rw [<- hsz] at h5 hpos; obtain ⟨g1, g2⟩ := baseC_ok (base := fun j => fzcell ρ.fz p.block j) h1 ht hpos h5; rw [g1, Int.toNat_natCast] at hcap; exact ⟨ρ, PMap.le_refl ρ, rfl, H.strike hn, fzSays_of hpos hp g1 hpb hsz g2, inpRel hpos hp g1 hcap hpb hpn hsz g2⟩
        . cases hf
    . cases hf
  | _ => cases hf
end
structure FzS where
  n : Nat
  sz : Nat
  len : E
  ks : DKs
  e : E
mutual
def SV.frz (F : FzS) : SV -> SV
  | .sl m s lo l => cond (Nat.beq m F.n && Nat.beq s F.sz && lo.same (.il 0) && l.same F.len && Nat.blt 0 F.sz) (.dsl F.ks F.e) (.sl m s lo l)
  | .ptr m (.c j) => cond (Nat.beq m F.n && Nat.beq F.sz 0) (.dptr F.ks F.e (.il 0) j) (.ptr m (.c j))
  | .agg l => .agg (SV.frzs F l)
  | .tup l => .tup (SV.frzs F l)
  | .ifc t x => .ifc t (SV.frz F x)
  | x => x
def SV.frzs (F : FzS) : List SV -> List SV
  | [] => []
  | x :: l => SV.frz F x :: SV.frzs F l
end
theorem SV.frzs_length {F : FzS} : ∀ {l : List SV}, (SV.frzs F l).length = l.length
  | [] => rfl
  | x :: l => by simp [SV.frzs, SV.frzs_length (l := l)]
theorem SV.frzs_append {F : FzS} : ∀ {l m : List SV}, SV.frzs F (l ++ m) = SV.frzs F l ++ SV.frzs F m
  | [], _ => rfl
  | x :: l, m => by simp [SV.frzs, SV.frzs_append (l := l)]
theorem SV.frzs_flatten {F : FzS} : ∀ {l : List (List SV)}, SV.frzs F l.flatten = (l.map (SV.frzs F)).flatten
  | [] => rfl
  | x :: l => by simp [SV.frzs_append, SV.frzs_flatten (l := l)]
section
variable {env : Env} {ρ ρ' : PMap} {F : FzS}
mutual
theorem SV.frz_ok (hle : ρ.le ρ') (hv : FzSays env ρ ρ' F.n F.sz F.len F.ks F.e) : ∀ {x : SV} {v : Value}, x.Rel env ρ v -> (x.frz F).Rel env ρ' v := by
  intro x v hx; cases x with
  | sl m s lo l =>
    unfold SV.frz; cases hc : (Nat.beq m F.n && Nat.beq s F.sz && lo.same (.il 0) && l.same F.len && Nat.blt 0 F.sz) with
    | false => exact hx.mono hle
    | true =>
      simp only [Bool.and_eq_true] at hc; obtain ⟨⟨⟨⟨h1, h2⟩, h3⟩, h4⟩, h5⟩ := hc; rw [Nat.eq_of_beq_eq_true h1, Nat.eq_of_beq_eq_true h2, E.same_eq h3, E.same_eq h4] at hx; exact hv.1 (Nat.le_of_ble_eq_true h5) v hx
  | ptr m o =>
    cases o with
    | el i sz j => exact hx.mono hle
    | c j =>
      unfold SV.frz; cases hc : (Nat.beq m F.n && Nat.beq F.sz 0) with
      | false => exact hx.mono hle
      | true =>
        rw [Bool.and_eq_true] at hc; rw [Nat.eq_of_beq_eq_true hc.1] at hx; exact hv.2 (Nat.eq_of_beq_eq_true hc.2) j v hx
  | agg l =>
    simp only [SV.frz, SV.Rel] at hx ⊢; obtain ⟨y, rfl, h⟩ := hx; exact ⟨y, rfl, SV.frzs_ok hle hv h⟩
  | tup l =>
    simp only [SV.frz, SV.Rel] at hx ⊢; obtain ⟨y, rfl, h⟩ := hx; exact ⟨y, rfl, SV.frzs_ok hle hv h⟩
  | ifc t x =>
    simp only [SV.frz, SV.Rel] at hx ⊢; obtain ⟨y, rfl, h⟩ := hx; exact ⟨y, rfl, SV.frz_ok hle hv h⟩
  | _ => exact hx.mono hle
theorem SV.frzs_ok (hle : ρ.le ρ') (hv : FzSays env ρ ρ' F.n F.sz F.len F.ks F.e) : ∀ {l : List SV} {vs : List Value}, SV.Rels env ρ l vs -> SV.Rels env ρ' (SV.frzs F l) vs := by
  intro l vs h; cases l with
  | nil => exact h
  | cons x l =>
    simp only [SV.frzs, SV.Rels] at h ⊢; obtain ⟨v, q, rfl, h1, h2⟩ := h; exact ⟨v, q, rfl, SV.frz_ok hle hv h1, SV.frzs_ok hle hv h2⟩
end
def SObj.frz (F : FzS) : SObj -> SObj
  | .cells T cs => .cells T (SV.frzs F cs)
  | .row T sz len cols tail => .row T sz len cols (tail.map (SV.frzs F))
  | o => o
theorem SObj.frz_owner {o : SObj} : (o.frz F).owner = o.owner := by cases o <;> rfl
theorem SObj.frz_ok {w0 : Anchor} {w : World} {m : Nat} {o : SObj} (hle : ρ.le ρ') (hpl : ρ'.pl = ρ.pl) (hv : FzSays env ρ ρ' F.n F.sz F.len F.ks F.e) (h : o.Rel env w0 ρ m w) : (o.frz F).Rel env w0 ρ' m w := by
  cases o with
  | cells T cs =>
    obtain ⟨p, vs, h1, h2, h3, h4, h5, h6⟩ := h; exact ⟨p, vs, hle _ _ h1, h2, h3, h4, SV.frzs_ok hle hv h5, h6⟩
  | row T sz len cols tail =>
    obtain ⟨p, vs, rest, h1, h2, h3, h4, ⟨b, t, k1, k2, k3, k4, k5, k6⟩, h6, h7⟩ := h; refine ⟨p, vs, rest, hle _ _ h1, h2, h3, h4, ⟨b, t, k1, k2, fun i hi j col hj => ?_, ?_, fun u hu => ?_, k6⟩, h6, h7⟩
    . obtain ⟨v, g1, g2⟩ := k3 i hi j col hj; exact ⟨v, g1, g2.mono hle⟩
    . rw [<- SV.frzs_flatten]; exact SV.frzs_ok hle hv k4
    . obtain ⟨y, hy, rfl⟩ := List.mem_map.1 hu; rw [SV.frzs_length]; exact k5 y hy
  | _ => exact h.keep hle (fun _ _ _ => rfl) (fun h0 _ => by rw [show ρ' m = ρ m from congrFun hpl m]; exact h0)
def frzHeap (F : FzS) (h : CHeap) : CHeap := h.map fun x => (x.1, cond (Nat.beq x.1 F.n) .gone (x.2.frz F))
theorem cget_frz {h : CHeap} {m : Nat} {o : SObj} (hm : cget (frzHeap F h) m = some o) : (m = F.n /\ o = .gone) \/ (m ≠ F.n /\ ∃ o0, cget h m = some o0 /\ o = o0.frz F) := by
  induction h with
  | nil => cases hm
  | cons x r ih =>
    obtain ⟨k, y⟩ := x; simp only [frzHeap, List.map_cons, cget] at hm ⊢; cases hb : Nat.beq k m with
    | false => rw [hb] at hm; exact ih hm
    | true =>
      rw [hb] at hm; obtain rfl := Nat.eq_of_beq_eq_true hb; simp only [cond_true, Option.some.injEq] at hm; cases hk : Nat.beq k F.n with
      | true => rw [hk] at hm; exact .inl ⟨Nat.eq_of_beq_eq_true hk, hm.symm⟩
      | false =>
        rw [hk] at hm; exact .inr ⟨fun e => by (rw [e, Nat.beq_refl] at hk; cases hk), y, by simp, hm.symm⟩
theorem cget_frz_fw {F : FzS} {h : CHeap} {m : Nat} {o : SObj} (hm : cget h m = some o) (hne : m ≠ F.n) : cget (frzHeap F h) m = some (o.frz F) := by
  induction h with
  | nil => cases hm
  | cons x r ih =>
    obtain ⟨k, y⟩ := x; simp only [frzHeap, List.map_cons, cget] at hm ⊢; cases hb : Nat.beq k m with
    | false => rw [hb] at hm; exact ih hm
    | true =>
      rw [hb] at hm; obtain rfl := Nat.eq_of_beq_eq_true hb; simp only [cond_true, Option.some.injEq] at hm ⊢; have : Nat.beq k F.n = false := by rw [Bool.eq_false_iff]; intro h; exact hne (Nat.eq_of_beq_eq_true h)
      rw [this, hm]; rfl
def Leaf.frz1 (kd : TypeId -> Option DKs) (n : Nat) (q : Leaf) : Option (Leaf × List Ob) :=
  match cget q.h n with
  | some o =>
    match frzG kd o with
    | some (ks, sz, e, len, obs) => some ({ q with fr := ⟨SV.frzs ⟨n, sz, len, ks, e⟩ q.fr.sl, q.fr.df⟩, h := frzHeap ⟨n, sz, len, ks, e⟩ q.h }, obs)
    | none => none
  | none => none
theorem Leaf.frz1_ok {kd : TypeId -> Option DKs} {n : Nat} {q q' : Leaf} {obs : List Ob} (h : q.frz1 kd n = some (q', obs)) (ht : AllT env obs) : Thaw env q q' := by
  unfold Leaf.frz1 at h; split at h
  . rename_i o ho; split at h
    . rename_i ks sz e len obs' hf; have hone : True := trivial; cases hone with
      | intro =>
        simp only [Option.some.injEq, Prod.mk.injEq] at h; obtain ⟨rfl, rfl⟩ := h; refine ⟨rfl, SV.frzs_length, fun A ρ a w hs => ?_⟩; obtain ⟨ρ', hle, hpl, HS, hv, _⟩ := hs.hs.frzG (n := n) ho hf ht; refine ⟨ρ', hle, ⟨?_, SV.frzs_ok hle hv hs.sl, hs.df.mono hle, fun m p hp => hs.nx m p (by rw [<- show ρ' m = ρ m from congrFun hpl m]; exact hp)⟩⟩
        have back : ∀ m o', hget (cden (frzHeap ⟨n, sz, len, ks, e⟩ q.h)) m = some o' -> (m = n /\ o' = .gone) \/ (m ≠ n /\ ∃ o0, hget (cden q.h) m = some o0 /\ o' = o0.frz ⟨n, sz, len, ks, e⟩) := fun m o' hm => cget_frz hm
        have back2 : ∀ m o', hget (cden (frzHeap ⟨n, sz, len, ks, e⟩ q.h)) m = some o' -> o'.owner = true -> ∃ o0, hget (hput (cden q.h) n .gone) m = some o0 /\ o0.owner = true := fun m o' hm ho' => by
          rcases back m o' hm with ⟨_, rfl⟩ | ⟨hne, o0, h0, rfl⟩
          . cases ho'
          . refine ⟨o0, by rw [hget_hput, if_neg hne]; exact h0, by rw [SObj.frz_owner] at ho'; exact ho'⟩
        refine ⟨HS.below, fun m o' hm => ?_, fun m k x y p p' hm hk hx hy hp hp' he => ?_, ?_, HS.fz.at_, fun b x m o' p hb hm ho' hp => ?_, HS.fz.old⟩
        . rcases back m o' hm with ⟨_, rfl⟩ | ⟨hne, o0, h0, rfl⟩
          . trivial
          . exact SObj.frz_ok hle hpl hv (hs.hs.objs m o0 h0)
        . obtain ⟨x0, a1, a2⟩ := back2 m x hm hx; obtain ⟨y0, b1, b2⟩ := back2 k y hk hy; exact HS.inj m k x0 y0 p p' a1 b1 a2 b2 hp hp' he
        . refine HS.ar.keep (Fz.le_refl _) rfl (fun m T ks' e' hm => ?_) (fun T ks' e' hm => ⟨ks', e', ?_⟩) (fun _ _ _ _ _ _ _ _ => rfl) (Nat.le_refl _) (fun _ h => h) rfl (fun m o' q' hm ho' hq => .inl ?_) (fun _ _ _ _ _ _ _ _ h => h)
          . rcases back m _ hm with ⟨_, h0⟩ | ⟨hne, o0, h0, e1⟩
            . cases h0
            . rw [hget_hput, if_neg hne, h0]; cases o0 <;> first | (rw [e1]; rfl) | (cases e1; done)
          . rw [hget_hput] at hm
            by_cases e1 : arN T = n
            . rw [if_pos e1] at hm; cases hm
            . rw [if_neg e1] at hm; exact cget_frz_fw (F := ⟨n, sz, len, ks, e⟩) hm e1
          . obtain ⟨y0, b1, b2⟩ := back2 m o' hm ho'; exact ⟨m, y0, q', b1, b2, hq, rfl⟩
        . obtain ⟨y0, b1, b2⟩ := back2 m o' hm ho'; exact HS.fz.free b x m y0 p hb b1 b2 hp
    . cases h
  . cases h
def wantK : DK -> SV -> List Nat
  | .sl _, .sl n _ _ _ => [n]
  | .fp _, .ptr n (.c 0) => [n]
  | .ifc _ k, .ifc _ x => wantK k x
  | _, _ => []
def wantKs : DKs -> List SV -> List Nat
  | .cons k r, x :: l => wantK k x ++ wantKs r l
  | _, _ => []
def wantIn (kd : TypeId -> Option DKs) : SObj -> List Nat
  | .row T _ _ _ tail => match kd T with | some ks => (tail.map (wantKs ks)).flatten | none => []
  | .cells T cs => match kd T with | some ks => wantKs ks cs | none => []
  | _ => []
def frzMany (g : Nat -> Leaf -> Option (Leaf × List Ob)) : List Nat -> Leaf -> Option (Leaf × List Ob)
  | [], q => some (q, [])
  | n :: r, q =>
    match g n q with
    | some (q1, o1) =>
      match frzMany g r q1 with
      | some (q2, o2) => some (q2, o1 ++ o2)
      | none => none
    | none => none
theorem frzMany_ok {g : Nat -> Leaf -> Option (Leaf × List Ob)} (hg : ∀ n q q' obs, g n q = some (q', obs) -> AllT env obs -> Thaw env q q') : ∀ {l : List Nat} {q q' : Leaf} {obs : List Ob}, frzMany g l q = some (q', obs) -> AllT env obs -> Thaw env q q'
  | [], q, q', obs, h, _ => by simp only [frzMany, Option.some.injEq, Prod.mk.injEq] at h; obtain ⟨rfl, _⟩ := h; exact Thaw.refl q
  | n :: r, q, q', obs, h, ht => by
    simp only [frzMany] at h; split at h
    . rename_i q1 o1 h1; split at h
      . rename_i q2 o2 h2; simp only [Option.some.injEq, Prod.mk.injEq] at h; obtain ⟨rfl, rfl⟩ := h; obtain ⟨t1, t2⟩ := allT_append.1 ht; exact (hg n q q1 o1 h1 t1).trans (frzMany_ok hg h2 t2)
      . cases h
    . cases h
def Leaf.frzN (kd : TypeId -> Option DKs) : Nat -> Nat -> Leaf -> Option (Leaf × List Ob)
  | 0, _, _ => none
  | d + 1, n, q =>
    match cget q.h n with
    | some o =>
      match frzMany (Leaf.frzN kd d) (wantIn kd o) q with
      | some (q1, o1) =>
        match q1.frz1 kd n with
        | some (q2, o2) => some (q2, o1 ++ o2)
        | none => none
      | none => none
    | none => none
theorem Leaf.frzN_ok {kd : TypeId -> Option DKs} : ∀ {d n : Nat} {q q' : Leaf} {obs : List Ob}, q.frzN kd d n = some (q', obs) -> AllT env obs -> Thaw env q q'
  | 0, _, _, _, _, h, _ => by cases h
  | d + 1, n, q, q', obs, h, ht => by
    simp only [Leaf.frzN] at h; split at h
    . split at h
      . rename_i q1 o1 h1; split at h
        . rename_i q2 o2 h2; simp only [Option.some.injEq, Prod.mk.injEq] at h; obtain ⟨rfl, rfl⟩ := h; obtain ⟨t1, t2⟩ := allT_append.1 ht; exact (frzMany_ok (fun n q q' obs => Leaf.frzN_ok) h1 t1).trans (Leaf.frz1_ok h2 t2)
        . cases h
      . cases h
    . cases h
end
mutual
def wantV : SV -> SV -> List Nat
  | .sl n _ _ _, .dsl _ _ => [n]
  | .ptr n (.c _), .dptr _ _ _ _ => [n]
  | .agg l, .agg m => wantL l m
  | .tup l, .tup m => wantL l m
  | .ifc _ x, .ifc _ y => wantV x y
  | _, _ => []
def wantL : List SV -> List SV -> List Nat
  | x :: l, y :: m => wantV x y ++ wantL l m
  | _, _ => []
end
def wantR : List SV -> List Col -> List Nat
  | .sl n _ _ _ :: l, .dsl _ _ :: m => n :: wantR l m
  | x :: l, .tc k _ _ :: m => wantK k x ++ wantR l m
  | _ :: l, _ :: m => wantR l m
  | _, _ => []
def wantT (cols : List Col) : List (List SV) -> List Nat
  | [] => []
  | t :: r => wantR t cols ++ wantT cols r
def wantO : SObj -> SObj -> List Nat
  | .cells _ l, .cells _ m => wantL l m
  | .row _ _ _ _ tail, .row _ _ _ cols _ => wantT cols tail
  | _, _ => []
def wantOv (sl : List SV) : List (Nat × SV) -> List Nat
  | [] => []
  | (j, y) :: r => (match nth sl j with | some x => wantV x y | none => []) ++ wantOv sl r
def wantHp (σ : Nat -> Nat) (hL : CHeap) : CHeap -> List Nat
  | [] => []
  | (n, o') :: r => (match cget hL (σ n) with | some o => wantO o o' | none => []) ++ wantHp σ hL r
def dedupN : List Nat -> List Nat
  | [] => []
  | n :: r => cond (inL n r) (dedupN r) (n :: dedupN r)
def Leaf.thawFor (kd : TypeId -> Option DKs) (q : Leaf) (ov : List (Nat × SV)) (hp : CHeap) (l : List (Nat × Nat)) : Option (Leaf × List Ob) :=
  frzMany (fun n q => q.frzN kd 6 n) (dedupN (wantOv q.fr.sl ov ++ wantHp (sig l q.nx) q.h hp)) q
theorem Leaf.thawFor_ok {kd : TypeId -> Option DKs} {env : Env} {q q' : Leaf} {ov : List (Nat × SV)} {hp : CHeap} {l : List (Nat × Nat)} {obs : List Ob} (h : q.thawFor kd ov hp l = some (q', obs)) (ht : AllT env obs) : Thaw env q q' :=
  frzMany_ok (fun n q q' obs => Leaf.frzN_ok) h ht
section
variable (pr : Nat -> E) (okv : Nat -> Bool) (σ : Nat -> Nat)
def entOvC (sl : List SV) : List (Nat × SV) -> Option (List Ob)
  | [] => some []
  | (j, y) :: r => match nth sl j with | some x => obl2 (entC pr okv σ x y) (entOvC sl r) | none => none
def entHpC (hL : CHeap) : CHeap -> Option (List Ob)
  | [] => some []
  | (n, o') :: r => match cget hL (tgtN σ o' n) with | some o => obl2 (objC pr okv σ o o') (entHpC hL r) | none => none
end
section
variable {e e' : Env} {pr : Nat -> E} {okv : Nat -> Bool} {σ : Nat -> Nat}
theorem entOvC_ok (hn : Nexts e e' pr okv) {sl : List SV} : ∀ {ov : List (Nat × SV)} {l : List Ob}, entOvC pr okv σ sl ov = some l -> AllT e l -> entOv e e' σ sl ov
  | [], _, _, _ => trivial
  | (j, y) :: r, l, h, ht => by
    simp only [entOvC] at h; unfold entOv; cases hx : nth sl j with
    | none => rw [hx] at h; cases h
    | some x =>
      rw [hx] at h; obtain ⟨l1, l2, h1, h2, rfl⟩ := obl2_some h; obtain ⟨t1, t2⟩ := allT_append.1 ht; exact ⟨entC_ok hn h1 t1, entOvC_ok hn h2 t2⟩
theorem entHpC_ok (hn : Nexts e e' pr okv) {hL : CHeap} : ∀ {hp : CHeap} {l : List Ob}, entHpC pr okv σ hL hp = some l -> AllT e l -> entHp e e' σ hL hp
  | [], _, _, _ => trivial
  | (j, y) :: r, l, h, ht => by
    simp only [entHpC] at h; unfold entHp; cases hx : cget hL (tgtN σ y j) with
    | none => rw [hx] at h; cases h
    | some x =>
      rw [hx] at h; obtain ⟨l1, l2, h1, h2, rfl⟩ := obl2_some h; obtain ⟨t1, t2⟩ := allT_append.1 ht; exact ⟨objC_ok hn h1 t1, entHpC_ok hn h2 t2⟩
end
def stays (vB : Nat) (ex : List Nat) : Nat -> Nat -> List (Nat × SV)
  | _, 0 => []
  | j, n + 1 => cond (inL j ex) (stays vB ex (j + 1) n) ((j, .val (vB + j) (.il 0)) :: stays vB ex (j + 1) n)
def topsL (js : List Nat) : List (Nat × SV) := js.map fun j => (j, .top)
def fullOv (vB N : Nat) (js : List Nat) (ov : List (Nat × SV)) : List (Nat × SV) := ov ++ (topsL js ++ stays vB (js ++ ov.map (·.1)) 0 N)
theorem ovGet_append : ∀ {a b : List (Nat × SV)} {j : Nat}, ovGet (a ++ b) j = match ovGet a j with | some x => some x | none => ovGet b j
  | [], b, j => rfl
  | (i, x) :: r, b, j => by
    simp only [List.cons_append, ovGet]; cases hb : Nat.beq i j with
    | true => rfl
    | false => simp only [cond_false]; exact ovGet_append
theorem ovGet_tops : ∀ {js : List Nat} {j : Nat} {x : SV}, ovGet (topsL js) j = some x -> x = .top
  | [], j, x, h => by cases h
  | i :: r, j, x, h => by
    simp only [topsL, List.map_cons, ovGet] at h; cases hb : Nat.beq i j with
    | true => rw [hb] at h; simp only [cond_true, Option.some.injEq] at h; exact h.symm
    | false => rw [hb] at h; exact ovGet_tops (js := r) h
theorem ovGet_stays {vB : Nat} {ex : List Nat} : ∀ {n j i : Nat} {x : SV}, ovGet (stays vB ex i n) j = some x -> x = .val (vB + j) (.il 0)
  | 0, j, i, x, h => by cases h
  | n + 1, j, i, x, h => by
    simp only [stays] at h; cases hx : inL i ex with
    | true => rw [hx] at h; exact ovGet_stays (n := n) h
    | false =>
      rw [hx] at h; simp only [cond_false, ovGet] at h; cases hb : Nat.beq i j with
      | true => rw [hb] at h; obtain rfl := Nat.eq_of_beq_eq_true hb; simp only [cond_true, Option.some.injEq] at h; exact h.symm
      | false => rw [hb] at h; exact ovGet_stays (n := n) h
theorem ovGet_mem : ∀ {l : List (Nat × SV)} {j : Nat}, j ∈ l.map (·.1) -> ∃ x, ovGet l j = some x
  | [], j, h => by simp at h
  | (i, x) :: r, j, h => by
    simp only [List.map_cons, List.mem_cons] at h; unfold ovGet; cases hb : Nat.beq i j with
    | true => exact ⟨x, rfl⟩
    | false =>
      rcases h with h | h
      . subst h; simp at hb
      . exact ovGet_mem h
theorem rels_full {vB : Nat} {env : Env} {ρ : PMap} {ov : List (Nat × SV)} {u0 u : Nat -> Value} {N : Nat} {js : List Nat} {vs : List Value} (h : SV.Rels env ρ (mkSl ov u0 0 N) vs) (hu : ∀ j, j < N -> vs[j]? = some (u0 j)) (hv : ∀ j, j < N -> env.val (vB + j) 0 = u0 j)
    (huu : ∀ j, j < N -> u j = u0 j) : SV.Rels env ρ (mkSl (fullOv vB N js ov) u 0 N) vs := by
  have hl : vs.length = N := by rw [h.length, mkSl_length]
  refine rels_of_get (by rw [hl, mkSl_length]) (fun j x v hx hv' => ?_)
  have hj : j < N := by
    have := (List.getElem?_eq_some_iff.1 hx).1; rw [mkSl_length] at this; exact this
  rw [mkSl_get N 0 j hj, Nat.zero_add] at hx; injection hx with hx; obtain ⟨v2, hv2, hr⟩ := sl_of_mk h hj; rw [hv'] at hv2; injection hv2 with hv2; subst hv2; unfold fullOv at hx; rw [ovGet_append] at hx; cases ho : ovGet ov j with
  | some y => rw [ho] at hx hr; simp only at hx hr; subst hx; exact hr
  | none =>
    rw [ho] at hx hr; simp only at hx hr; rw [ovGet_append] at hx; cases ht : ovGet (topsL js) j with
    | some y => rw [ht] at hx; simp only at hx; rw [ovGet_tops ht] at hx; subst hx; trivial
    | none =>
      rw [ht] at hx; simp only at hx; cases hs : ovGet (stays vB (js ++ ov.map (·.1)) 0 N) j with
      | some y =>
        rw [hs] at hx; simp only at hx; rw [ovGet_stays hs] at hx; subst hx; show v = env.val (vB + j) 0; rw [hv j hj, hr]
      | none =>
        rw [hs] at hx; simp only at hx; subst hx; show v = u j; rw [huu j hj, hr]
def turnObl (pr : Nat -> E) (okv : Nat -> Bool) (q : Leaf) (H : Head) (l : List (Nat × Nat)) (fixed : List Nat) (dfc : List (FuncId × List SV)) : Option (List Ob) :=
  cond (allDiff (l.map (·.2)) && l.all (fun x => Nat.blt x.1 H.m && Nat.blt x.2 q.nx) && dfSame q.fr.df dfc && fixed.all (fun k => Nat.beq (sig l q.nx k) k) && arsOk q.h H.h)
    (obl2 (entOvC pr okv (sig l q.nx) q.fr.sl H.ov) (entHpC pr okv (sig l q.nx) q.h H.h)) none
theorem turnObl_ok {e e' : Env} {pr : Nat -> E} {okv : Nat -> Bool} (hn : Nexts e e' pr okv) {q : Leaf} {H : Head} {l : List (Nat × Nat)} {fixed : List Nat} {u : Nat -> Value} {es : List Ob} {dfc : List (FuncId × List SV)} (hdv : ∀ ρ ρ' ds, DRel e ρ dfc ds -> DRel e' ρ' dfc ds) (h : turnObl pr okv q H l fixed dfc = some es) (ht : AllT e es) : Turns e e' q H l [] fixed u dfc := by
  unfold turnObl at h; cases hc : (allDiff (l.map (·.2)) && l.all (fun x => Nat.blt x.1 H.m && Nat.blt x.2 q.nx) && dfSame q.fr.df dfc && fixed.all (fun k => Nat.beq (sig l q.nx k) k) && arsOk q.h H.h) with
  | false => rw [hc] at h; cases h
  | true =>
    rw [hc] at h; simp only [cond_true] at h; obtain ⟨l1, l2, h1, h2, rfl⟩ := obl2_some h; obtain ⟨t1, t2⟩ := allT_append.1 ht; simp only [Bool.and_eq_true] at hc; obtain ⟨⟨⟨⟨c1, c2⟩, c3⟩, c4⟩, c5⟩ := hc; exact ⟨entOvC_ok hn h1 t1, entHpC_ok hn h2 t2, c1, c2, dfSame_eq c3, hdv, fun j hj => (by cases hj), fun k hk => Nat.eq_of_beq_eq_true (List.all_eq_true.1 c4 k hk), c5⟩
def fullH (vB N : Nat) (js : List Nat) (H : Head) : Head := ⟨fullOv vB N js H.ov, H.h, H.m, H.fs⟩
structure SameH (H' H : Head) : Prop where
  ov : H'.ov = H.ov
  h : H'.h = H.h
  m : H'.m = H.m
theorem SameH.refl (H : Head) : SameH H H := ⟨rfl, rfl, rfl⟩
theorem SameH.full {H' H : Head} (k : SameH H' H) (vB N : Nat) (js : List Nat) : SameH (fullH vB N js H') (fullH vB N js H) := ⟨by unfold fullH; simp only; rw [k.ov], k.h, k.m⟩
theorem SameH.turns {e e' : Env} {q : Leaf} {H H' : Head} {l : List (Nat × Nat)} {keep fixed : List Nat} {u : Nat -> Value} {dfc : List (FuncId × List SV)} (k : SameH H' H) (T : Turns e e' q H l keep fixed u dfc) : Turns e e' q H' l keep fixed u dfc :=
  ⟨by rw [k.ov]; exact T.ov, by rw [k.h]; exact T.hp, T.inj, by rw [k.m]; exact T.lt, T.df, T.dv, T.keep, T.fixed, by rw [k.h]; exact T.ars⟩
def exSame : SExit -> SExit -> Bool
  | .normal, .normal => true
  | .exit a, .exit b => Nat.beq a b
  | .ret, .ret => true
  | _, _ => false
theorem exSame_eq {a b : SExit} (h : exSame a b = true) : a = b := by
  cases a <;> cases b <;> simp only [exSame] at h <;> first
    | rfl
    | (cases h; done)
    | (rw [Nat.eq_of_beq_eq_true h]; done)
theorem ovGet_full {vB N : Nat} {js : List Nat} {ov : List (Nat × SV)} {j : Nat} (hj : j < N) : ∃ x, ovGet (fullOv vB N js ov) j = some x := by
  have hs : ∀ {ex : List Nat} {n i : Nat}, j ∉ ex -> i <= j -> j < i + n -> ∃ x, ovGet (stays vB ex i n) j = some x := by
    intro ex n
    induction n with
    | zero => intro i _ h1 h2; omega
    | succ n ih =>
      intro i hex h1 h2; simp only [stays]; cases hx : inL i ex with
      | true =>
        have : i ≠ j := fun e => hex (by rw [<- e]; exact inL_iff.1 hx)
        exact ih hex (by omega) (by omega)
      | false =>
        simp only [cond_false, ovGet]; cases hb : Nat.beq i j with
        | true => exact ⟨_, rfl⟩
        | false =>
          have : i ≠ j := fun e => by subst e; simp at hb
          exact ih hex (by omega) (by omega)
  unfold fullOv; rw [ovGet_append]; cases ho : ovGet ov j with
  | some x => exact ⟨x, rfl⟩
  | none =>
    simp only; rw [ovGet_append]; cases ht : ovGet (topsL js) j with
    | some x => exact ⟨x, rfl⟩
    | none =>
      refine hs (fun hm => ?_) (Nat.zero_le _) (by omega)
      rcases List.mem_append.1 hm with h1 | h1
      . obtain ⟨x, hx⟩ := ovGet_mem (l := topsL js) (j := j) (by simpa [topsL] using h1)
        rw [hx] at ht; cases ht
      . obtain ⟨x, hx⟩ := ovGet_mem h1; rw [hx] at ho; cases ho
theorem mkSl_indep {vB N : Nat} {js : List Nat} {ov : List (Nat × SV)} (u u' : Nat -> Value) : mkSl (fullOv vB N js ov) u 0 N = mkSl (fullOv vB N js ov) u' 0 N := by
  apply List.ext_getElem?
  intro i
  by_cases hi : i < N
  . rw [mkSl_get N 0 i hi, mkSl_get N 0 i hi, Nat.zero_add]; obtain ⟨x, hx⟩ := ovGet_full (vB := vB) (js := js) (ov := ov) hi; rw [hx]
  . rw [List.getElem?_eq_none (by rw [mkSl_length]; omega), List.getElem?_eq_none (by rw [mkSl_length]; omega)]
def addP (m n : Nat) (l : List (Nat × Nat)) : List (Nat × Nat) := cond (l.any fun x => Nat.beq x.1 m) l ((m, n) :: l)
mutual
def mtch : SV -> SV -> List (Nat × Nat) -> List (Nat × Nat)
  | .ptr n _, .ptr m _, l => addP m n l
  | .sl n _ _ _, .sl m _ _ _, l => addP m n l
  | .map n, .map m, l => addP m n l
  | .chan n, .chan m, l => addP m n l
  | .ifc _ x, .ifc _ y, l => mtch x y l
  | .agg a, .agg b, l => mtchs a b l
  | .tup a, .tup b, l => mtchs a b l
  | .fn _ a c, .fn _ b d, l => mtchs c d (mtchs a b l)
  | _, _, l => l
def mtchs : List SV -> List SV -> List (Nat × Nat) -> List (Nat × Nat)
  | x :: a, y :: b, l => mtchs a b (mtch x y l)
  | _, _, l => l
end
def mtchO : SObj -> SObj -> List (Nat × Nat) -> List (Nat × Nat)
  | .cells _ a, .cells _ b, l => mtchs a b l
  | .itr n _ _, .itr m _ _, l => addP m n l
  | .dmp _ _ _ _ (some n), .dmp _ _ _ _ (some m), l => addP m n l
  | _, _, l => l
def mtchOv (sl : List SV) : List (Nat × SV) -> List (Nat × Nat) -> List (Nat × Nat)
  | [], l => l
  | (j, y) :: r, l => mtchOv sl r (match nth sl j with | some x => mtch x y l | none => l)
def findN (m : Nat) : List (Nat × Nat) -> Option Nat
  | [] => none
  | (a, b) :: r => cond (Nat.beq a m) (some b) (findN m r)
def passP : CHeap -> List (Nat × Nat) -> Prog (List (Nat × Nat))
  | [], l => .ret l
  | (m, o') :: r, l =>
    match findN m l with
    | none => passP r l
    | some n => .get n fun o => passP r (mtchO o o' l)
def autoP (sl : List SV) (H : Head) : Prog (List (Nat × Nat)) := do
  let l <- passP H.h (mtchOv sl H.ov [])
  let l <- passP H.h l
  passP H.h l
def autoL (q : Leaf) (H : Head) : Option (List (Nat × Nat)) :=
  match (autoP q.fr.sl H).run [] q.h [] Foot.nil with
  | .ok r => some r.a
  | .error _ => none
inductive MP where
  | ret (n : Nat)
  | fail
  | get (n : Nat) (k : SObj -> MP)
def MP.prog : MP -> Prog Nat
  | .ret n => .ret n
  | .fail => .fail "no mode"
  | .get n k => .get n fun o => (k o).prog
def MP.at (h : CHeap) : MP -> Option Nat
  | .ret n => some n
  | .fail => none
  | .get n k => match cget h n with | some o => (k o).at h | none => none
theorem MP.prog_heap {env : Env} : ∀ {p : MP} {h h' : Heap} {n : Nat}, p.prog.Run env h n h' -> h = h'
  | .ret _, _, _, _, he => he.2
  | .fail, _, _, _, he => he.elim
  | .get _ k, _, _, _, ⟨o, _, he⟩ => MP.prog_heap he
def kdOf : List (TypeId × DKs) -> TypeId -> Option DKs
  | [], _ => none
  | (t, k) :: r, T => cond (Nat.beq t T) (some k) (kdOf r T)
structure LoopY where
  f : FuncId
  key : Nat
  N : Nat
  r : Nat
  base : Nat
  js : List Nat
  hd : Nat -> Head
  ent : Nat -> Facts
  app : List SV -> Bool
  ok0 : Nat -> Bool
  modeL : List SV -> MP
  tgt : Nat -> Bool
  mf : Nat -> Facts
  hx : Nat -> Head
  xmL : SExit -> List SV -> MP
  exN : Nat -> SExit
  exits : List (E × Nat)
  fixed : List Nat
  lt : E
  X : XCtr
  fuel : Nat
  np : Nat
  params : List Nat := []
  kds : List (TypeId × DKs) := []
  pins : List SV -> List (Nat × E) := fun _ => []
  pinT : List (Nat × Nat) := []
  pinH : List (Nat × Nat × Nat × List Nat) := []
  dfN : List (FuncId × Nat) := []
namespace LoopY
def dfc (D : LoopY) : List (FuncId × List SV) := mkDf (D.base + 900) D.dfN
theorem dfc_dv (D : LoopY) {e e' : Env} {pr : Nat -> E} (hn : Nexts e e' pr (fun _ => true)) (ρ ρ' : PMap) (ds : List Deferred) (h : DRel e ρ D.dfc ds) : DRel e' ρ' D.dfc ds := mkDf_re (fun c i => hn.val c rfl i) h
def mode (D : LoopY) (sl : List SV) : Prog Nat := (D.modeL sl).prog
theorem modeP (D : LoopY) {env : Env} (sl : List SV) {h h' : Heap} {n : Nat} (he : (D.mode sl).Run env h n h') : h = h' := MP.prog_heap he
def okv (D : LoopY) (c : Nat) : Bool := Nat.blt c D.base || Nat.ble (D.base + 1000) c
def prT (D : LoopY) (n : Nat) : E := cond (Nat.beq n D.r) (.o2 .add (.v n) (.il 1)) (.v n)
def prX (D : LoopY) (n : Nat) : E := cond (Nat.beq n D.r) (.il 0) (.v n)
def pruneO (fs : Facts) : List Ob -> List Ob
  | [] => []
  | o :: r => match decideO fs o with
    | some true => pruneO fs r
    | _ => o :: pruneO fs r
theorem pruneO_ok {env : Env} {fs : Facts} (hf : fs.Hold env) : ∀ {l : List Ob}, AllT env (pruneO fs l) -> AllT env l
  | [], _ => fun x hx => by cases hx
  | o :: r, h => by
    unfold pruneO at h; intro x hx; split at h
    . rename_i hd; rcases List.mem_cons.1 hx with rfl | hx
      . exact decideO_ok hf hd
      . exact pruneO_ok hf h x hx
    . rcases List.mem_cons.1 hx with rfl | hx
      . exact h _ (List.mem_cons_self ..)
      . exact pruneO_ok hf (fun y hy => h y (List.mem_cons_of_mem _ hy)) x hx
def env (D : LoopY) (e : Env) (u : Nat -> Value) (i : Nat) : Env where
  v n := if n = D.r then .i i else e.v n
  fn := e.fn
  val c z := if D.base <= c /\ c < D.base + 1000 then u (c - D.base) else e.val c z
  mp := e.mp
  uf := e.uf
theorem nextT (D : LoopY) (e : Env) (u : Nat -> Value) (i : Nat) : Nexts (D.env e u i) (D.env e u (i + 1)) D.prT (fun _ => true) := by
  refine ⟨fun n => ?_, rfl, fun _ _ _ => rfl, rfl, rfl⟩; unfold prT; cases hb : Nat.beq n D.r with
  | true =>
    obtain rfl := Nat.eq_of_beq_eq_true hb; simp only [cond_true, E.den, O2.den, env, if_true, Dv.I]; rfl
  | false =>
    have : n ≠ D.r := fun e => by subst e; simp at hb
    simp only [cond_false, E.den, env, if_neg this]
theorem okv_out {D : LoopY} {c : Nat} (h : D.okv c = true) : ¬ (D.base <= c /\ c < D.base + 1000) := by
  unfold okv at h; rw [Bool.or_eq_true] at h; rcases h with h | h
  . unfold Nat.blt at h; have := Nat.le_of_ble_eq_true h; omega
  . have := Nat.le_of_ble_eq_true h; omega
theorem nextZ (D : LoopY) (e : Env) (u : Nat -> Value) (i : Nat) : Nexts (D.env e u i) (D.env e u 0) D.prX (fun _ => true) := by
  refine ⟨fun n => ?_, rfl, fun _ _ _ => rfl, rfl, rfl⟩; unfold prX; cases hb : Nat.beq n D.r with
  | true => obtain rfl := Nat.eq_of_beq_eq_true hb; simp only [cond_true, E.den, env, if_true]; rfl
  | false =>
    have : n ≠ D.r := fun e => by subst e; simp at hb
    simp only [cond_false, E.den, env, if_neg this]
def prE (θ : List (Nat × E)) (n : Nat) : E :=
  match θ with
  | [] => .v n
  | (p, a) :: r => cond (Nat.beq p n) a (prE r n)
def withP (e : Env) (θ : List (Nat × E)) : Env := { e with v := fun n => (prE θ n).den e }
theorem prE_no {θ : List (Nat × E)} {n : Nat} (h : n ∉ θ.map (·.1)) : prE θ n = .v n := by
  induction θ with
  | nil => rfl
  | cons x r ih =>
    obtain ⟨p, a⟩ := x; simp only [List.map_cons, List.mem_cons, not_or] at h; unfold prE; have : Nat.beq p n = false := by rw [Bool.eq_false_iff]; intro he; exact h.1 (Nat.eq_of_beq_eq_true he).symm
    rw [this]; exact ih h.2
theorem nextP (e : Env) (θ : List (Nat × E)) : Nexts e (withP e θ) (prE θ) (fun _ => true) := ⟨fun _ => rfl, rfl, fun _ _ _ => rfl, rfl, rfl⟩
theorem nextE (D : LoopY) {e : Env} {θ : List (Nat × E)} (hr : prE θ D.r = .il 0) (u : Nat -> Value) : Nexts e (D.env (withP e θ) u 0) (prE θ) D.okv := by
  refine ⟨fun n => ?_, rfl, fun c hc z => ?_, rfl, rfl⟩
  . simp only [env, withP]
    by_cases h : n = D.r
    . subst h; rw [if_pos rfl, hr]; rfl
    . rw [if_neg h]
  . simp only [env, if_neg (okv_out hc)]; rfl
def factsO : Facts -> List Ob
  | [] => []
  | (e, true) :: r => .e e :: factsO r
  | (e, false) :: r => .e (notE e) :: factsO r
theorem factsO_ok {env : Env} : ∀ {fs : Facts}, AllT env (factsO fs) -> fs.Hold env
  | [], _ => hold_nil
  | (e, true) :: r, h => Facts.hold_cons (h _ (List.mem_cons_self ..)) (factsO_ok fun x hx => h x (List.mem_cons_of_mem _ hx))
  | (e, false) :: r, h => Facts.hold_cons (by
      have : ((notE e).den env).B = true := h _ (List.mem_cons_self ..); rw [B_notE] at this
      simpa using this) (factsO_ok fun x hx => h x (List.mem_cons_of_mem _ hx))
def primeF (pr : Nat -> E) (fs : Facts) : Facts := fs.map fun x => (x.1.prime pr, x.2)
theorem primeF_ok {e e' : Env} {pr : Nat -> E} {okv : Nat -> Bool} (hn : Nexts e e' pr okv) {fs : Facts} (h : (primeF pr fs).Hold e) : fs.Hold e' := fun x b hm => by
  have := h (x.prime pr) b (List.mem_map.2 ⟨(x, b), hm, rfl⟩); rw [E.prime_den hn] at this; exact this
def exitObl : List (E × Nat) -> Nat -> Option (List Ob)
  | [], _ => none
  | (c, ν) :: r, m => cond (Nat.beq ν m) (some (cond (c.same (.bl true)) [] [.e c])) ((exitObl r m).map fun l => .e (notE c) :: l)
theorem exitObl_prime {e e' : Env} {pr : Nat -> E} {okv : Nat -> Bool} (hn : Nexts e e' pr okv) : ∀ {l : List (E × Nat)} {ν : Nat} {xs : List Ob}, exitObl (l.map fun x => (x.1.prime pr, x.2)) ν = some xs -> AllT e xs -> ∃ ys, exitObl l ν = some ys /\ AllT e' ys
  | [], _, _, h, _ => by cases h
  | (c, m) :: r, ν, xs, h, ht => by
    simp only [List.map_cons, exitObl] at h ⊢; cases hb : Nat.beq m ν with
    | true =>
      rw [hb] at h; simp only [cond_true, Option.some.injEq] at h; refine ⟨_, rfl, ?_⟩
      have hc : (c.den e').B = true := by
        rw [<- E.prime_den hn]; cases hs : (c.prime pr).same (.bl true) with
        | true => rw [E.same_eq hs]; rfl
        | false => rw [hs] at h; subst h; exact ht _ (List.mem_singleton.2 rfl)
      intro x hx; cases hs : c.same (.bl true) with
      | true => rw [hs] at hx; cases hx
      | false => rw [hs] at hx; rw [List.mem_singleton.1 hx]; exact hc
    | false =>
      rw [hb] at h; simp only [cond_false, Option.map_eq_some_iff] at h ⊢; obtain ⟨zs, h1, rfl⟩ := h; obtain ⟨ys, g1, g2⟩ := exitObl_prime hn h1 (fun x hx => ht x (List.mem_cons_of_mem _ hx)); refine ⟨_, ⟨ys, g1, rfl⟩, fun x hx => ?_⟩; rcases List.mem_cons.1 hx with rfl | hx
      . have hc : ((notE (c.prime pr)).den e).B = true := ht _ (List.mem_cons_self ..); show ((notE c).den e').B = true; rw [B_notE] at hc ⊢; rw [<- E.prime_den hn]; exact hc
      . exact g2 x hx
def exitsZ (D : LoopY) : List (E × Nat) := D.exits.map fun x => (x.1.prime D.prX, x.2)
def full (D : LoopY) (H : Head) : Head := fullH D.base D.N D.js H
def kd (P : Program) (D : LoopY) (T : TypeId) : Option DKs :=
  match kdOf D.kds T with
  | some k => some k
  | none => dksT P T
def deadL (D : LoopY) (q : Leaf) : Bool :=
  match q.ex with
  | .normal => deadV q.vcs || (match (D.modeL q.fr.sl).at q.h with | some m => Nat.beq m 777 | none => false)
  | _ => deadV q.vcs
def leafObl (P : Program) (D : LoopY) (nh : Nat) (q : Leaf) : Option (Facts × List Ob) :=
  cond (Nat.beq q.fr.sl.length D.N)
    (cond (D.deadL q) (some (q.fs.take (q.fs.length - nh), [.e (.bl false)])) <| match q.ex with
    | .normal =>
      match (D.modeL q.fr.sl).at q.h with
      | some μ' =>
        match autoL q (D.hd μ') with
        | some l =>
          match q.thawFor (D.kd P) (D.hd μ').ov (D.hd μ').h l with
          | some (q', ob) => cond (D.tgt μ') ((turnObl D.prT (fun _ => true) q' (D.full (D.hd μ')) l D.fixed D.dfc).map fun es => (q.fs.take (q.fs.length - nh), pruneO q.fs (.e D.lt :: (factsO (primeF D.prT (D.mf μ')) ++ (q.vcs ++ (ob ++ es)))))) none
          | none => none
        | none => none
      | none => none
    | ex =>
      match (D.xmL ex q.fr.sl).at q.h with
      | some ν =>
        match autoL q (D.hx ν), exitObl D.exitsZ ν with
        | some l, some xs =>
          match q.thawFor (D.kd P) (D.hx ν).ov (D.hx ν).h l with
          | some (q', ob) => cond (exSame ex (D.exN ν)) ((turnObl D.prX (fun _ => true) q' (D.full (D.hx ν)) l D.fixed D.dfc).map fun es => (q.fs.take (q.fs.length - nh), pruneO q.fs (xs ++ (q.vcs ++ (ob ++ es))))) none
          | none => none
        | _, _ => none
      | none => none) none
def allObl (P : Program) (D : LoopY) (nh : Nat) : List Leaf -> Option (List (Facts × List Ob))
  | [] => some []
  | q :: r =>
    match D.leafObl P nh q, D.allObl P nh r with
    | some x, some l => some (x :: l)
    | _, _ => none
def paths (P : Program) (D : LoopY) (μ : Nat) : Ex (List Leaf) :=
  exploreF P D.X D.fuel (.code D.f (theLoop P D.f D.key) ⟨mkSl (D.full (D.hd μ)).ov (fun _ => .nilIface) 0 D.N, D.dfc⟩) (D.hd μ).h (D.hd μ).m D.np (D.hd μ).fs []
def obl (P : Program) (D : LoopY) (μ : Nat) : Option (List (Facts × List Ob)) :=
  match D.paths P μ with
  | .ok l => cond ((D.hd μ).h.all fun x => headObj x.2) (D.allObl P (D.hd μ).fs.length l) none
  | _ => none
theorem allObl_mem {P : Program} {D : LoopY} {nh : Nat} : ∀ {l : List Leaf} {L : List (Facts × List Ob)}, D.allObl P nh l = some L -> ∀ q ∈ l, ∃ x ∈ L, D.leafObl P nh q = some x
  | [], L, _, q, hq => by cases hq
  | p :: r, L, h, q, hq => by
    unfold allObl at h; split at h
    . rename_i x l hx hl; injection h with h; subst h; rcases List.mem_cons.1 hq with rfl | hq
      . exact ⟨x, List.mem_cons_self .., hx⟩
      . obtain ⟨y, hy, h2⟩ := allObl_mem hl q hq; exact ⟨y, List.mem_cons_of_mem _ hy, h2⟩
    . cases h
def leaves (P : Program) (D : LoopY) (μ : Nat) : List Leaf :=
  match D.paths P μ with
  | .ok l => l
  | _ => []
theorem obl_some {P : Program} {D : LoopY} {μ : Nat} {L : List (Facts × List Ob)} (h : D.obl P μ = some L) : D.paths P μ = .ok (D.leaves P μ) /\ ((D.hd μ).h.all fun x => headObj x.2) = true /\ D.allObl P (D.hd μ).fs.length (D.leaves P μ) = some L := by
  unfold obl at h; unfold leaves; cases hp : D.paths P μ with
  | error e => rw [hp] at h; cases h
  | ok l =>
    rw [hp] at h; simp only at h ⊢; cases hb : (D.hd μ).h.all fun x => headObj x.2 with
    | false => rw [hb] at h; cases h
    | true => rw [hb] at h; exact ⟨trivial, rfl, h⟩
theorem comp {P : Program} (hP : Plain P) (hM : P.follows .mixedOrders = true) {D : LoopY} (hbody : ((P.funcs[D.f]?).bind (·.body)).isSome = true) {e : Env} {u : Nat -> Value} {A : Anchor} {n : Nat} {mode : Nat -> Nat -> Prop}
    (hX : ∀ i, i <= n -> ExtOk P (D.env e u i) A (D.X.toExt P)) {L : Nat -> List (Facts × List Ob)} (hob : ∀ i μ, mode i μ -> D.obl P μ = some (L μ))
    (hall : ∀ i μ, mode i μ -> i <= n -> ∀ x ∈ L μ, x.1.Hold (D.env e u i) -> AllT (D.env e u i) x.2) (hfs : ∀ i μ, mode i μ -> i <= n -> (D.hd μ).fs.Hold (D.env e u i)) (hlt : ∀ i, i <= n -> (D.lt.den (D.env e u i)).B = true -> i < n)
    (hturn : ∀ i μ μ', mode i μ -> D.tgt μ' = true -> (D.mf μ').Hold (D.env e u (i + 1)) -> i + 1 <= n -> ∃ μ2, mode (i + 1) μ2 /\ SameH (D.hd μ2) (D.hd μ')) (hxobj : ∀ ν, ((D.hx ν).h.all fun x => headObj x.2) = true)
    {ρ0 : PMap} {u0 : Nat -> Value} {a : Act} {w : World} {Q : Exit -> Act -> World -> Prop} {μ0 : Nat} (hm0 : mode 0 μ0)
    (hs : Sat (D.env e u 0) A ρ0 ⟨mkSl (D.full (D.hd μ0)).ov u0 0 D.N, D.dfc⟩ (cden (D.hd μ0).h) (D.hd μ0).m a w)
    (hexit : ∀ ν ρ (a' : Act) w', (∃ xs, exitObl D.exits ν = some xs /\ AllT (D.env e u 0) xs) -> ((∀ k ∈ D.fixed, ∀ p, ρ0 k = some p -> ρ k = some p) /\ Fz.le ρ0.fz ρ.fz) ->
      Sat (D.env e u 0) A ρ ⟨mkSl (D.full (D.hx ν)).ov (fun _ => .nilIface) 0 D.N, D.dfc⟩ (cden (D.hx ν).h) (D.hx ν).m a' w' -> Q (D.exN ν).den a' w') :
    (Code.loop (theLoop P D.f D.key)).wp P Q a w := by
  have leaf : ∀ i μ, mode i μ -> ∀ q ∈ D.leaves P μ, ∃ x ∈ L μ, D.leafObl P (D.hd μ).fs.length q = some x := fun i μ hm q hq => allObl_mem (obl_some (hob i μ hm)).2.2 q hq
  have split : ∀ {nh : Nat} {q : Leaf} {x : Facts × List Ob}, D.leafObl P nh q = some x -> q.fr.sl.length = D.N /\ (∀ env, q.fs.Hold env -> x.1.Hold env) /\
      ((q.ex = .normal /\ ∃ μ' l q' ob es, q.thawFor (D.kd P) (D.hd μ').ov (D.hd μ').h l = some (q', ob) /\ D.tgt μ' = true /\ turnObl D.prT (fun _ => true) q' (D.full (D.hd μ')) l D.fixed D.dfc = some es /\ x.2 = pruneO q.fs (.e D.lt :: (factsO (primeF D.prT (D.mf μ')) ++ (q.vcs ++ (ob ++ es))))) \/
       (q.ex ≠ .normal /\ ∃ ν l q' ob es xs, q.thawFor (D.kd P) (D.hx ν).ov (D.hx ν).h l = some (q', ob) /\ q.ex = D.exN ν /\ exitObl D.exitsZ ν = some xs /\ turnObl D.prX (fun _ => true) q' (D.full (D.hx ν)) l D.fixed D.dfc = some es /\ x.2 = pruneO q.fs (xs ++ (q.vcs ++ (ob ++ es)))) \/ x.2 = [.e (.bl false)]) := by
    intro nh q x h; have htk : ∀ env, q.fs.Hold env -> Facts.Hold env (q.fs.take (q.fs.length - nh)) := fun env hh e b hm => hh e b (List.mem_of_mem_take hm); unfold leafObl at h; cases hb : Nat.beq q.fr.sl.length D.N with
    | false => rw [hb] at h; cases h
    | true =>
      rw [hb] at h; simp only [cond_true] at h; refine ⟨Nat.eq_of_beq_eq_true hb, ?_⟩; cases hdd : D.deadL q with
      | true =>
        rw [hdd, cond_true] at h; injection h with h; subst h; exact ⟨htk, .inr (.inr rfl)⟩
      | false =>
      rw [hdd, cond_false] at h; split at h
      . rename_i hex; split at h
        . rename_i μ' hmu; split at h
          . rename_i l hl; split at h
            . rename_i q' ob hth; cases htg : D.tgt μ' with
              | false => rw [htg] at h; cases h
              | true =>
                rw [htg] at h; simp only [cond_true, Option.map_eq_some_iff] at h; obtain ⟨es, h1, rfl⟩ := h; exact ⟨htk, .inl ⟨hex, μ', l, q', ob, es, hth, htg, h1, rfl⟩⟩
            . cases h
          . cases h
        . cases h
      . rename_i hex; split at h
        . rename_i ν hnu; split at h
          . rename_i l xs hl hxs; split at h
            . rename_i q' ob hth; cases hsm : exSame q.ex (D.exN ν) with
              | false => rw [hsm] at h; cases h
              | true =>
                rw [hsm] at h; simp only [cond_true] at h; rw [Option.map_eq_some_iff] at h; obtain ⟨es, h1, rfl⟩ := h; exact ⟨htk, .inr (.inl ⟨hex, ν, l, q', ob, es, xs, hth, exSame_eq hsm, hxs, h1, rfl⟩)⟩
            . cases h
          . cases h
        . cases h
  refine loop_canon hP hM (inBody_theLoop D.key hbody) (N := D.N) (heads := fun μ => D.full (D.hd μ)) (env := D.env e u) (A := A) (n := n) (mode := mode) (X := D.X) hX (fuel := D.fuel) (np := D.np) (js := [])
    (leaves := fun μ _ => D.leaves P μ) (keep := []) (fixed := D.fixed) (u0 := u0) (ρ0 := ρ0) (fun i μ u hm => ?_) hfs (fun i μ hm => (obl_some (hob i μ hm)).2.1) (fun i μ u hm q hq _ => ?_) (fun i μ u hm hi _ q hq hqf => ?_) (fun i μ u2 ρ a' w' hm hi q hq hqf hex _ hfix hsq => ?_) hm0 hs
  . have := (obl_some (hob i μ hm)).1; unfold paths at this; rw [<- this]; show exploreF P D.X D.fuel (.code D.f (theLoop P D.f D.key) ⟨mkSl (fullOv D.base D.N D.js (D.hd μ).ov) u 0 D.N, D.dfc⟩) _ _ _ _ _ = exploreF P D.X D.fuel (.code D.f (theLoop P D.f D.key) ⟨mkSl (fullOv D.base D.N D.js (D.hd μ).ov) (fun _ => .nilIface) 0 D.N, D.dfc⟩) _ _ _ _ _; rw [mkSl_indep u (fun _ => .nilIface)]; rfl
  . obtain ⟨x, _, hx⟩ := leaf i μ hm q hq; exact (split hx).1
  . obtain ⟨x, hxL, hx⟩ := leaf i μ hm q hq; obtain ⟨hl, hfx, hc⟩ := split hx; have ht := hall i μ hm hi x hxL (hfx _ hqf); rcases hc with ⟨hex, μ', l, q', ob, es, hth, h1, h2, h3⟩ | ⟨hex, ν, l, q', ob, es, xs, hth, h1, h2, h3, h4⟩ | h3
    rotate_right
    . rw [h3] at ht; exact (deadV_false (vcs := [.e (.bl false)]) rfl ht).elim
    . rw [h3] at ht; have ht := pruneO_ok hqf ht; have t0 := ht _ (List.mem_cons_self ..); obtain ⟨tm, ht⟩ := allT_append.1 (fun y hy => ht y (List.mem_cons_of_mem _ hy)); obtain ⟨t1, t2⟩ := allT_append.1 ht; obtain ⟨t3, t2⟩ := allT_append.1 t2; refine ⟨t1, fun _ => ⟨hlt i hi t0, ?_⟩⟩; obtain ⟨μ2, hm2, hsame⟩ := hturn i μ μ' hm h1 (primeF_ok (D.nextT e _ i) (factsO_ok tm)) (hlt i hi t0); exact ⟨μ2, l, q', hm2, Leaf.thawFor_ok hth t3, (hsame.full _ _ _).turns (turnObl_ok (D.nextT e _ i) (D.dfc_dv (D.nextT e _ i)) h2 t2)⟩
    . rw [h4] at ht; have ht := pruneO_ok hqf ht; exact ⟨(allT_append.1 (allT_append.1 ht).2).1, fun he => absurd he hex⟩
  . obtain ⟨x, hxL, hx⟩ := leaf i μ hm q hq; obtain ⟨hl, hfx, hc⟩ := split hx; have ht := hall i μ hm hi x hxL (hfx _ hqf); rcases hc with ⟨hex', _⟩ | ⟨_, ν, l, q', ob, es, xs, hth, h1, h2, h3, h4⟩ | h3
    . exact absurd hex' hex
    rotate_right
    . rw [h3] at ht; exact (deadV_false (vcs := [.e (.bl false)]) rfl ht).elim
    . rw [h4] at ht; have ht := pruneO_ok hqf ht; obtain ⟨t0, ht⟩ := allT_append.1 ht; obtain ⟨t3, t4⟩ := allT_append.1 (allT_append.1 ht).2; have hT := Leaf.thawFor_ok hth t3; obtain ⟨ρ3, hle3, hs3⟩ := hT.sat A ρ a' w' hsq; have T := turnObl_ok (u := fun _ => .nilIface) (D.nextZ e u i) (D.dfc_dv (D.nextZ e u i)) h3 t4; obtain ⟨ys, hy1, hy2⟩ := exitObl_prime (D.nextZ e u i) h2 t0; have S := sat_turn hs3 T.ov T.hp (hxobj ν) T.inj T.lt T.df T.dv (hT.len.trans hl) T.ars; rw [h1]
      refine hexit ν (ρ3.re (sig l q'.nx)) a' w' ⟨ys, hy1, hy2⟩ ⟨fun k hk p hp => ?_, Fz.le_trans hfix.2 hle3.fz⟩ (by
        have e : mkSl (D.full (D.hx ν)).ov (fun j => (a'.tmps.toList[j]?).getD undef) 0 D.N = mkSl (D.full (D.hx ν)).ov (fun _ => .nilIface) 0 D.N := mkSl_indep _ _; rw [e] at S
        exact S)
      show ρ3 (sig l q'.nx k) = some p; rw [T.fixed k hk]; exact hle3 k p (hfix.1 k hk p hp)
end LoopY
end Go.Sx

