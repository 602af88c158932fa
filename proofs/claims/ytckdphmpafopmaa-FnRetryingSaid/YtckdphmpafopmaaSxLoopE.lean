/-
  SX, PART 26: what a round has to show, as a list of expressions.
-/
import Derived.Test.YtckdphmpafopmaaSxOut
namespace Go.Sx
open Go.RowKit
set_option linter.unusedVariables false
set_option linter.unusedSimpArgs false

/-- An expression over other variables, given by expressions over these. -/
def E.prime (pr : Nat → E) : E → E
  | .v n => pr n
  | .il z => .il z
  | .bl b => .bl b
  | .sl s => .sl s
  | .fn c a => .fn c (a.prime pr)
  | .uf c a => .uf c (a.prime pr)
  | .o1 o a => mk1 o (a.prime pr)
  | .o2 o a b => mk2 o (a.prime pr) (b.prime pr)
  | .ext s lo hi => .ext (s.prime pr) (lo.prime pr) (hi.prime pr)

/-- Another environment: its variables by expressions over this one, all else as here, but for some values. -/
structure Nexts (e e' : Env) (pr : Nat → E) (okv : Nat → Bool) : Prop where
  v : ∀ n, e'.v n = (pr n).den e
  fn : e'.fn = e.fn
  val : ∀ c, okv c = true → ∀ i, e'.val c i = e.val c i
  mp : e'.mp = e.mp
  uf : e'.uf = e.uf
  ab : e'.ab = e.ab

theorem E.prime_den {e e' : Env} {pr : Nat → E} {okv : Nat → Bool} (h : Nexts e e' pr okv) : ∀ (x : E), (x.prime pr).den e = x.den e' := by
  intro x
  induction x with
  | v n => exact (h.v n).symm
  | fn c a ih => simp only [E.prime, E.den, ih, h.fn]
  | uf c a ih => simp only [E.prime, E.den, ih, h.uf]
  | o1 o a ih => simp only [E.prime, mk1_den, E.den, ih]
  | o2 o a b iha ihb => simp only [E.prime, mk2_den, E.den, iha, ihb]
  | ext s lo hi i1 i2 i3 => simp only [E.prime, E.den, i1, i2, i3]
  | _ => rfl

def oblI (a b : E) : List Ob := cond (a.same b) [] [.e (.o2 .ieq a b)]
def oblB (a b : E) : List Ob := cond (a.same b) [] [.e (.o2 .beq a b)]
def oblS (a b : E) : List Ob := cond (a.same b) [] [.e (.o2 .seq a b)]
def AllT (e : Env) (l : List Ob) : Prop := ∀ x ∈ l, x.den e
theorem allT_append {e : Env} {a b : List Ob} : AllT e (a ++ b) ↔ AllT e a ∧ AllT e b :=
  ⟨fun h => ⟨fun x hx => h x (List.mem_append_left _ hx), fun x hx => h x (List.mem_append_right _ hx)⟩, fun h x hx => (List.mem_append.1 hx).elim (h.1 x) (h.2 x)⟩
theorem oblI_ok {e : Env} {a b : E} (h : AllT e (oblI a b)) : (a.den e).I = (b.den e).I := by
  unfold oblI at h
  cases hs : a.same b with
  | true => rw [E.same_eq hs]
  | false =>
    rw [hs] at h
    have : ((a.den e).I == (b.den e).I) = true := h _ (List.mem_singleton.2 rfl)
    simpa using this
theorem oblB_ok {e : Env} {a b : E} (h : AllT e (oblB a b)) : (a.den e).B = (b.den e).B := by
  unfold oblB at h
  cases hs : a.same b with
  | true => rw [E.same_eq hs]
  | false =>
    rw [hs] at h
    have : ((a.den e).B == (b.den e).B) = true := h _ (List.mem_singleton.2 rfl)
    simpa using this
theorem oblS_ok {e : Env} {a b : E} (h : AllT e (oblS a b)) : (a.den e).S = (b.den e).S := by
  unfold oblS at h
  cases hs : a.same b with
  | true => rw [E.same_eq hs]
  | false =>
    rw [hs] at h
    have : ((a.den e).S.toList == (b.den e).S.toList) = true := h _ (List.mem_singleton.2 rfl)
    have h2 : (a.den e).S.toList = (b.den e).S.toList := by simpa using this
    have h4 : ((a.den e).S == (b.den e).S) = true := by rw [bytes_beq]; exact this
    have h5 : ((a.den e).S.data == (b.den e).S.data) = true := h4
    exact ByteArray.ext (by simpa using h5)

def oblT (a b : E) : List Ob := cond (a.same b) [] [.t a b]
theorem oblT_ok {e : Env} {a b : E} (h : AllT e (oblT a b)) : (a.den e).T = (b.den e).T := by
  unfold oblT at h
  cases hs : a.same b with
  | true => rw [E.same_eq hs]
  | false => rw [hs] at h; exact h _ (List.mem_singleton.2 rfl)

section
variable (pr : Nat → E) (okv : Nat → Bool) (σ : Nat → Nat)
def obl2 (a b : Option (List Ob)) : Option (List Ob) :=
  match a, b with
  | some x, some y => some (x ++ y)
  | _, _ => none
def ifB (b : Bool) : Option (List Ob) := cond b (some []) none

mutual
/-- What is to be shown, that x says y of the other environment. -/
def entC : SV → SV → Option (List Ob)
  | _, .top => some []
  | .int k a, .int k' b => cond (kSame k k') (some (oblI a (b.prime pr))) none
  | .bool a, .bool b => some (oblB a (b.prime pr))
  | .str a, .str b => some (oblS a (b.prime pr))
  | .val c a, .val d b => cond (Nat.beq c d && okv c) (some (oblI a (b.prime pr))) none
  | .nilp, .nilp => some []
  | .ptr n (.c j), .ptr m (.c j') => ifB (Nat.beq n (σ m) && Nat.beq j j')
  | .anyp, .anyp => some []
  | .nilsl, .nilsl => some []
  | .sl n sz lo len, .sl m sz' lo' len' => cond (Nat.beq n (σ m) && Nat.beq sz sz') (some (oblI lo (lo'.prime pr) ++ oblI len (len'.prime pr))) none
  | .dsl ks a, .dsl ks' b => cond (ks.same ks') (some (oblT a (b.prime pr))) none
  | .nilsl, .dsl _ b => some (oblT (.il 0) (b.prime pr))
  | .nilmap, .nilmap => some []
  | .map n, .map m => ifB (Nat.beq n (σ m))
  | .chan n, .chan m => ifB (Nat.beq n (σ m))
  | .nilch, .nilch => some []
  | .nilfn, .nilfn => some []
  | .fn (.func f) a c, .fn (.func g) b d => cond (Nat.beq f g) (obl2 (entCs a b) (entCs c d)) none
  | .nilif, .nilif => some []
  | .ifc t x, .ifc u y => cond (Nat.beq t u) (entC x y) none
  | .agg l, .agg m => entCs l m
  | .tup l, .tup m => entCs l m
  | _, _ => none
def entCs : List SV → List SV → Option (List Ob)
  | [], [] => some []
  | x :: l, y :: m => obl2 (entC x y) (entCs l m)
  | _, _ => none
end
end

theorem obl2_some {a b : Option (List Ob)} {l : List Ob} (h : obl2 a b = some l) : ∃ x y, a = some x ∧ b = some y ∧ l = x ++ y := by
  unfold obl2 at h
  split at h
  · rename_i x y; injection h with h; exact ⟨x, y, rfl, rfl, h.symm⟩
  · cases h
theorem ifB_some {b : Bool} {l : List Ob} (h : ifB b = some l) : b = true ∧ l = [] := by
  cases b with
  | true => injection h with h; exact ⟨rfl, h.symm⟩
  | false => cases h
theorem kSame_eq' {k k' : IntKind} (h : kSame k k' = true) : k = k' := by cases k <;> cases k' <;> first | rfl | (simp [kSame] at h)

section
variable {e e' : Env} {pr : Nat → E} {okv : Nat → Bool} {σ : Nat → Nat}
mutual
theorem entC_ok (hn : Nexts e e' pr okv) : ∀ {x y : SV} {l : List Ob}, entC pr okv σ x y = some l → AllT e l → SV.ent e e' σ x y := by
  intro x y l h ht
  cases y with
  | top => cases x <;> trivial
  | int k b =>
    cases x <;> simp only [entC] at h <;> try (cases h; done)
    rename_i k' a
    cases hk : kSame k' k with
    | false => rw [hk] at h; cases h
    | true =>
      rw [hk] at h
      simp only [cond_true, Option.some.injEq] at h
      subst h
      exact ⟨kSame_eq' hk, by rw [oblI_ok ht, E.prime_den hn]⟩
  | bool b =>
    cases x <;> simp only [entC] at h <;> try (cases h; done)
    simp only [Option.some.injEq] at h
    subst h
    show _ = _
    rw [oblB_ok ht, E.prime_den hn]
  | str b =>
    cases x <;> simp only [entC] at h <;> try (cases h; done)
    simp only [Option.some.injEq] at h
    subst h
    show _ = _
    rw [oblS_ok ht, E.prime_den hn]
  | flt f => cases x <;> simp [entC] at h
  | val d b =>
    cases x with
    | val c a =>
      simp only [entC] at h
      cases hb : (Nat.beq c d && okv c) with
      | false => rw [hb] at h; cases h
      | true =>
        rw [hb] at h
        simp only [cond_true, Option.some.injEq] at h
        subst h
        rw [Bool.and_eq_true] at hb
        obtain rfl := Nat.eq_of_beq_eq_true hb.1
        show e.val c _ = e'.val c _
        rw [hn.val c hb.2, oblI_ok ht, E.prime_den hn]
    | _ => simp [entC] at h
  | dsl ks b =>
    cases x <;> simp only [entC] at h <;> try (cases h; done)
    · simp only [Option.some.injEq] at h
      subst h
      show (b.den e').T = []
      rw [← E.prime_den hn]
      exact (oblT_ok ht).symm
    · rename_i ks' a
      cases hk : ks'.same ks with
      | false => rw [hk] at h; cases h
      | true =>
        rw [hk] at h
        simp only [cond_true, Option.some.injEq] at h
        subst h
        refine ⟨DKs.same_eq hk, ?_⟩
        rw [← E.prime_den hn]
        exact oblT_ok ht
  | dptr _ _ _ _ => cases x <;> simp [entC] at h
  | nilp => cases x <;> simp [entC] at h <;> trivial
  | anyp => cases x <;> simp [entC] at h <;> trivial
  | ptr m o =>
    cases x with
    | ptr n o2 =>
      cases o with
      | el _ _ _ => cases o2 <;> simp [entC] at h
      | c j' =>
        cases o2 with
        | el _ _ _ => simp [entC] at h
        | c j =>
          simp only [entC] at h
          obtain ⟨hb, rfl⟩ := ifB_some h
          simp only [Bool.and_eq_true, Nat.beq_eq] at hb
          exact ⟨hb.1, by show j = j'; exact hb.2⟩
    | _ => simp [entC] at h
  | nilsl => cases x <;> simp [entC] at h <;> trivial
  | sl m sz' lo' len' =>
    cases x with
    | sl n sz lo len =>
      simp only [entC] at h
      cases hb : (Nat.beq n (σ m) && Nat.beq sz sz') with
      | false => rw [hb] at h; cases h
      | true =>
        rw [hb] at h
        simp only [cond_true, Option.some.injEq] at h
        subst h
        simp only [Bool.and_eq_true, Nat.beq_eq] at hb
        obtain ⟨t1, t2⟩ := allT_append.1 ht
        exact ⟨hb.1, hb.2, by rw [oblI_ok t1, E.prime_den hn], by rw [oblI_ok t2, E.prime_den hn]⟩
    | _ => simp [entC] at h
  | nilmap => cases x <;> simp [entC] at h <;> trivial
  | map m =>
    cases x with
    | map n =>
      simp only [entC] at h
      obtain ⟨hb, rfl⟩ := ifB_some h
      exact Nat.eq_of_beq_eq_true hb
    | _ => simp [entC] at h
  | chan m =>
    cases x with
    | chan n =>
      simp only [entC] at h
      obtain ⟨hb, rfl⟩ := ifB_some h
      exact Nat.eq_of_beq_eq_true hb
    | _ => simp [entC] at h
  | nilch => cases x <;> simp [entC] at h <;> trivial
  | nilfn => cases x <;> simp [entC] at h <;> trivial
  | fn g b d =>
    cases x with
    | fn f a c =>
      cases f <;> cases g <;> simp only [entC] at h <;> try (cases h; done)
      rename_i f g
      cases hb : Nat.beq f g with
      | false => rw [hb] at h; cases h
      | true =>
        rw [hb] at h
        obtain ⟨l1, l2, h1, h2, rfl⟩ := obl2_some h
        obtain ⟨t1, t2⟩ := allT_append.1 ht
        exact ⟨by rw [Nat.eq_of_beq_eq_true hb], entCs_ok hn h1 t1, entCs_ok hn h2 t2⟩
    | _ => simp [entC] at h
  | nilif => cases x <;> simp [entC] at h <;> trivial
  | ifc u y =>
    cases x with
    | ifc t x =>
      simp only [entC] at h
      cases hb : Nat.beq t u with
      | false => rw [hb] at h; cases h
      | true => rw [hb] at h; exact ⟨Nat.eq_of_beq_eq_true hb, entC_ok hn h ht⟩
    | _ => simp [entC] at h
  | agg m => cases x <;> simp only [entC] at h <;> first | (cases h; done) | exact entCs_ok hn h ht
  | tup m => cases x <;> simp only [entC] at h <;> first | (cases h; done) | exact entCs_ok hn h ht
  | cst u => cases x <;> simp [entC] at h
theorem entCs_ok (hn : Nexts e e' pr okv) : ∀ {xs ys : List SV} {l : List Ob}, entCs pr okv σ xs ys = some l → AllT e l → SV.ents e e' σ xs ys := by
  intro xs ys l h ht
  cases xs with
  | nil => cases ys <;> simp only [entCs] at h <;> first | trivial | (cases h; done)
  | cons x xs =>
    cases ys with
    | nil => simp [entCs] at h
    | cons y ys =>
      simp only [entCs] at h
      obtain ⟨l1, l2, h1, h2, rfl⟩ := obl2_some h
      obtain ⟨t1, t2⟩ := allT_append.1 ht
      exact ⟨entC_ok hn h1 t1, entCs_ok hn h2 t2⟩
end
end

def Col.same : Col → Col → Bool
  | .int k c, .int k' d => kSame k k' && Nat.beq c d
  | .bool c, .bool d => Nat.beq c d
  | .str c, .str d => Nat.beq c d
  | .val c, .val d => Nat.beq c d
  | .dsl ks c, .dsl ks' d => ks.same ks' && Nat.beq c d
  | _, _ => false
theorem Col.same_eq {a b : Col} (h : a.same b = true) : a = b := by
  cases a <;> cases b <;> simp only [Col.same, Bool.and_eq_true, Nat.beq_eq] at h <;> first
    | (obtain ⟨h1, h2⟩ := h; rw [kSame_eq' h1, h2]; done)
    | (obtain ⟨h1, h2⟩ := h; rw [DKs.same_eq h1, h2]; done)
    | (rw [h]; done)
    | (cases h; done)
def colsSame : List Col → List Col → Bool
  | [], [] => true
  | a :: l, b :: m => a.same b && colsSame l m
  | _, _ => false
theorem colsSame_eq : ∀ {l m : List Col}, colsSame l m = true → l = m
  | [], [], _ => rfl
  | [], _ :: _, h => by cases h
  | _ :: _, [], h => by cases h
  | a :: l, b :: m, h => by
    simp only [colsSame, Bool.and_eq_true] at h
    rw [Col.same_eq h.1, colsSame_eq h.2]
/-- The same of rows of the call's own: a tree's cells too. -/
def Col.sameP (pr : Nat → E) (okv : Nat → Bool) : Col → Col → Bool
  | .tc k x j, .tc k' y j' => k.same k' && x.same (y.prime pr) && Nat.beq j j'
  | .val c, .val d => Nat.beq c d && okv c
  | a, b => a.same b
def colsSameP (pr : Nat → E) (okv : Nat → Bool) : List Col → List Col → Bool
  | [], [] => true
  | a :: l, b :: m => a.sameP pr okv b && colsSameP pr okv l m
  | _, _ => false

/-- A cell that is to be a given one. -/
def treeC : DK → E → SV → Option (List Ob)
  | .int k, t, .int k' a => cond (kSame k' k) (some (oblI a t)) none
  | .bool, t, .bool a => some (oblB a t)
  | .str, t, .str a => some (oblS a t)
  | .sl ks, t, .dsl ks' a => cond (ks'.same ks) (some (oblT a t)) none
  | .sl ks, t, .nilsl => some (oblT (.il 0) t)
  | _, _, _ => none
def cellObl (pr : Nat → E) : Col → SV → E → Option (List Ob)
  | .int k c, x, ix => treeC (.int k) (.fn c ix) x
  | .bool c, x, ix => treeC .bool (.fn c ix) x
  | .str c, x, ix => treeC .str (.fn c ix) x
  | .dsl ks c, x, ix => treeC (.sl ks) (.fn c ix) x
  | .tc k e j, x, ix => treeC k (.o2 (.cell j) (e.prime pr) ix) x
  | .val _, _, _ => none
def rowObl (pr : Nat → E) : List Col → List SV → E → Option (List Ob)
  | [], _, _ => some []
  | c :: cs, x :: xs, ix => obl2 (cellObl pr c x ix) (rowObl pr cs xs ix)
  | _ :: _, [], _ => none
def tailObl (pr : Nat → E) (cols : List Col) (len : E) : Nat → List (List SV) → Option (List Ob)
  | _, [] => some []
  | k, t :: r => obl2 (rowObl pr cols t (addI len (.il (k : Nat)))) (tailObl pr cols len (k + 1) r)
def isNought : E → Bool
  | .il 0 => true
  | _ => false

def colsOk (okv : Nat → Bool) : List Col → Bool
  | [] => true
  | .val c :: r => okv c && colsOk okv r
  | .tc _ _ _ :: _ => false
  | _ :: r => colsOk okv r
def natsSame : List Nat → List Nat → Bool
  | [], [] => true
  | a :: l, b :: m => Nat.beq a b && natsSame l m
  | _, _ => false
theorem natsSame_eq : ∀ {l m : List Nat}, natsSame l m = true → l = m
  | [], [], _ => rfl
  | [], _ :: _, h => by cases h
  | _ :: _, [], h => by cases h
  | a :: l, b :: m, h => by
    simp only [natsSame, Bool.and_eq_true] at h
    rw [Nat.eq_of_beq_eq_true h.1, natsSame_eq h.2]
def Off.pri (pr : Nat → E) : Off → Off
  | .c j => .c j
  | .el i sz j => .el (i.prime pr) sz j
mutual
def SV.ren (τ : Nat → Nat) (pr : Nat → E) : SV → SV
  | .int k e => .int k (e.prime pr)
  | .bool e => .bool (e.prime pr)
  | .str e => .str (e.prime pr)
  | .val c i => .val c (i.prime pr)
  | .ptr n o => .ptr (τ n) (o.pri pr)
  | .sl n sz lo len => .sl (τ n) sz (lo.prime pr) (len.prime pr)
  | .dsl ks e => .dsl ks (e.prime pr)
  | .dptr ks e i j => .dptr ks (e.prime pr) (i.prime pr) j
  | .map n => .map (τ n)
  | .chan n => .chan (τ n)
  | .fn f a c => .fn f (SV.rens τ pr a) (SV.rens τ pr c)
  | .ifc t x => .ifc t (SV.ren τ pr x)
  | .agg l => .agg (SV.rens τ pr l)
  | .tup l => .tup (SV.rens τ pr l)
  | x => x
def SV.rens (τ : Nat → Nat) (pr : Nat → E) : List SV → List SV
  | [] => []
  | x :: l => SV.ren τ pr x :: SV.rens τ pr l
end
def KV.ren (τ : Nat → Nat) (pr : Nat → E) : KV → KV
  | .no => .no
  | .yes x => .yes (x.ren τ pr)
  | .may b x => .may (b.prime pr) (x.ren τ pr)
def knownRen (τ : Nat → Nat) (pr : Nat → E) (l : List (SV × KV)) : List (SV × KV) := l.map fun x => (x.1.ren τ pr, x.2.ren τ pr)
mutual
/-- It bears no value that may be another one elsewhere. -/
def SV.noval : SV → Bool
  | .val _ _ => false
  | .agg l => SV.novals l
  | _ => true
def SV.novals : List SV → Bool
  | [] => true
  | x :: l => SV.noval x && SV.novals l
end
mutual
theorem SV.fl_ren {e e' : Env} {pr : Nat → E} {okv : Nat → Bool} {τ : Nat → Nat} (hn : Nexts e e' pr okv) : ∀ {x : SV}, x.noval = true → SV.fl e (x.ren τ pr) = SV.fl e' x
  | .int .., _ => by simp only [SV.ren, SV.fl, E.prime_den hn]
  | .bool .., _ => by simp only [SV.ren, SV.fl, E.prime_den hn]
  | .str .., _ => by simp only [SV.ren, SV.fl, E.prime_den hn]
  | .val .., h => by cases h
  | .nilp, _ => rfl
  | .nilsl, _ => rfl
  | .nilif, _ => rfl
  | .agg l, h => by simp only [SV.ren, SV.fl, SV.fls_ren hn (l := l) h]
  | .flt .., _ => rfl
  | .ptr .., _ => rfl
  | .anyp, _ => rfl
  | .sl .., _ => rfl
  | .dsl .., _ => rfl
  | .dptr .., _ => rfl
  | .nilmap, _ => rfl
  | .map .., _ => rfl
  | .chan .., _ => rfl
  | .nilch, _ => rfl
  | .nilfn, _ => rfl
  | .fn .., _ => rfl
  | .ifc .., _ => rfl
  | .tup .., _ => rfl
  | .top, _ => rfl
  | .cst .., _ => rfl
theorem SV.fls_ren {e e' : Env} {pr : Nat → E} {okv : Nat → Bool} {τ : Nat → Nat} (hn : Nexts e e' pr okv) : ∀ {l : List SV}, SV.novals l = true → SV.fls e (SV.rens τ pr l) = SV.fls e' l
  | [], _ => rfl
  | x :: l, h => by
    simp only [SV.novals, Bool.and_eq_true] at h
    simp only [SV.rens, SV.fls, SV.fl_ren hn h.1, SV.fls_ren hn h.2]
end
def knownNoval : List (SV × KV) → Bool
  | [] => true
  | (k, .no) :: r => k.noval && knownNoval r
  | (k, .yes x) :: r => k.noval && x.noval && knownNoval r
  | (k, .may _ x) :: r => k.noval && x.noval && knownNoval r
theorem flK_ren {e e' : Env} {pr : Nat → E} {okv : Nat → Bool} {τ : Nat → Nat} (hn : Nexts e e' pr okv) : ∀ {l : List (SV × KV)}, knownNoval l = true → flK e (knownRen τ pr l) = flK e' l
  | [], _ => rfl
  | (k, x) :: l, h => by
    have e1 : flK e (knownRen τ pr ((k, x) :: l)) = (match SV.fl e (k.ren τ pr), flO e (x.ren τ pr), flK e (knownRen τ pr l) with | some a, some b, some r => some ((a, b) :: r) | _, _, _ => none) := rfl
    have e2 : flK e' ((k, x) :: l) = (match SV.fl e' k, flO e' x, flK e' l with | some a, some b, some r => some ((a, b) :: r) | _, _, _ => none) := rfl
    rw [e1, e2]
    cases x with
    | no => simp only [knownNoval, Bool.and_eq_true] at h; rw [SV.fl_ren hn h.1, flK_ren hn h.2]; rfl
    | yes x => simp only [knownNoval, Bool.and_eq_true] at h; simp only [KV.ren, flO, SV.fl_ren hn h.1.1, SV.fl_ren hn h.1.2, flK_ren hn h.2]
    | may b x => simp only [knownNoval, Bool.and_eq_true] at h; simp only [KV.ren, flO, SV.fl_ren hn h.1.1, SV.fl_ren hn h.1.2, flK_ren hn h.2, E.prime_den hn]
def mpObl (kk : KK) (m : Nat) (ix : E) (known : List (SV × KV)) (m' : Nat) (ix' : E) (known' : List (SV × KV)) : List Ob :=
  cond (known.isEmpty && known'.isEmpty && Nat.beq m m' && ix.same ix') [] [.mp kk m ix known m' ix' known']
theorem mpObl_ok {e : Env} {kk : KK} {m m' : Nat} {ix ix' : E} {known known' : List (SV × KV)} (h : AllT e (mpObl kk m ix known m' ix' known')) : (Ob.mp kk m ix known m' ix' known').den e := by
  unfold mpObl at h
  cases hb : (known.isEmpty && known'.isEmpty && Nat.beq m m' && ix.same ix') with
  | false => rw [hb] at h; exact h _ (List.mem_singleton.2 rfl)
  | true =>
    simp only [Bool.and_eq_true] at hb
    obtain ⟨⟨⟨h1, h1'⟩, h2⟩, h3⟩ := hb
    have h1 : known = [] := by simpa using h1
    have h1' : known' = [] := by simpa using h1'
    subst h1; subst h1'
    rw [Nat.eq_of_beq_eq_true h2, E.same_eq h3]
    exact ⟨[], [], rfl, rfl, fun k _ => rfl⟩

theorem colsOk_mem {okv : Nat → Bool} {c : Nat} : ∀ {l : List Col}, colsOk okv l = true → Col.val c ∈ l → okv c = true
  | [], _, h => by cases h
  | col :: r, ho, h => by
    rcases List.mem_cons.1 h with e | h
    · subst e; simp only [colsOk, Bool.and_eq_true] at ho; exact ho.1
    · refine colsOk_mem (l := r) ?_ h
      cases col <;> simp only [colsOk, Bool.and_eq_true] at ho <;> first | exact ho.2 | exact ho | (cases ho; done)
theorem colsOk_tc {okv : Nat → Bool} {k : DK} {x : E} {j : Nat} : ∀ {l : List Col}, colsOk okv l = true → ¬ Col.tc k x j ∈ l
  | [], _, h => by cases h
  | col :: r, ho, h => by
    rcases List.mem_cons.1 h with e | h
    · subst e; simp only [colsOk] at ho; cases ho
    · refine colsOk_tc (okv := okv) (l := r) ?_ h
      cases col <;> simp only [colsOk, Bool.and_eq_true] at ho <;> first | exact ho.2 | exact ho | (cases ho; done)
theorem col_ent {e e' : Env} {pr : Nat → E} {okv : Nat → Bool} {σ : Nat → Nat} (hn : Nexts e e' pr okv) {l : List Col} (ho : colsOk okv l = true) {col : Col} (hm : col ∈ l) (i : Int) : SV.ent e e' σ (col.at (.il i)) (col.at (.il i)) := by
  cases col with
  | int k c => exact ⟨rfl, by simp only [E.den, hn.fn]⟩
  | bool c => show _ = _; simp only [E.den, hn.fn]
  | str c => show _ = _; simp only [E.den, hn.fn]
  | val c => show e.val c _ = e'.val c _; rw [hn.val c (colsOk_mem ho hm)]; rfl
  | dsl ks c => exact ⟨rfl, by simp only [E.den, hn.fn]⟩
  | tc k x j => exact absurd hm (colsOk_tc ho)
theorem dcell_ent {e e' : Env} {σ : Nat → Nat} {k : DK} {x y : E} (h : x.den e = y.den e') : SV.ent e e' σ (dcellS k x) (dcellS k y) := by
  cases k <;> simp only [dcellS, SV.ent, h] <;> first | trivial | exact ⟨rfl, rfl⟩
theorem col_entP {e e' : Env} {pr : Nat → E} {okv : Nat → Bool} {σ : Nat → Nat} (hn : Nexts e e' pr okv) {a b : Col} (h : a.sameP pr okv b = true) (i : Int) : SV.ent e e' σ (a.at (.il i)) (b.at (.il i)) := by
  have main : ∀ {a b : Col}, a.same b = true → (∀ c, a ≠ .val c) → SV.ent e e' σ (a.at (.il i)) (b.at (.il i)) := by
    intro a b h hv
    have := Col.same_eq h
    subst this
    cases a with
    | int k c => exact ⟨rfl, by simp only [E.den, hn.fn]⟩
    | bool c => show _ = _; simp only [E.den, hn.fn]
    | str c => show _ = _; simp only [E.den, hn.fn]
    | val c => exact absurd rfl (hv c)
    | dsl ks c => exact ⟨rfl, by simp only [E.den, hn.fn]⟩
    | tc k x j => simp only [Col.same] at h; cases h
  unfold Col.sameP at h
  split at h
  · simp only [Bool.and_eq_true] at h
    rw [DK.same_eq h.1.1, Nat.eq_of_beq_eq_true h.2]
    simp only [Col.at]
    refine dcell_ent ?_
    rw [E.same_eq h.1.2]
    simp only [E.den, E.prime_den hn]
  · rw [Bool.and_eq_true] at h
    rw [Nat.eq_of_beq_eq_true h.1] at *
    show e.val _ _ = e'.val _ _
    rw [hn.val _ h.2]; rfl
  · rename_i hnt hnv
    exact main h fun c hc => by
      subst hc
      cases b <;> simp only [Col.same] at h <;> first | (cases h; done) | skip
      exact hnv _ _ rfl rfl
theorem colsSameP_get {pr : Nat → E} {okv : Nat → Bool} : ∀ {l m : List Col} {j : Nat} {b : Col}, colsSameP pr okv l m = true → m[j]? = some b → ∃ a, l[j]? = some a ∧ a.sameP pr okv b = true
  | [], [], j, b, _, h => by simp at h
  | [], _ :: _, _, _, h, _ => by cases h
  | _ :: _, [], _, _, h, _ => by cases h
  | a :: l, b :: m, j, c, h, hj => by
    simp only [colsSameP, Bool.and_eq_true] at h
    cases j with
    | zero => simp at hj; subst hj; exact ⟨a, rfl, h.1⟩
    | succ j => obtain ⟨x, h1, h2⟩ := colsSameP_get h.2 (by simpa using hj); exact ⟨x, by simpa using h1, h2⟩

section
variable {e e' : Env} {pr : Nat → E} {okv : Nat → Bool} {σ : Nat → Nat}
theorem treeC_ok {k : DK} {t y : E} {x : SV} {l : List Ob} (h : treeC k t x = some l) (ht : AllT e l) (hy : t.den e = y.den e') : SV.ent e e' σ x (dcellS k y) := by
  cases k <;> cases x <;> simp only [treeC] at h <;> try (cases h; done)
  · rename_i k k' a
    cases hk : kSame k' k with
    | false => rw [hk] at h; cases h
    | true =>
      rw [hk] at h
      simp only [cond_true, Option.some.injEq] at h
      subst h
      refine ⟨kSame_eq' hk, ?_⟩
      rw [oblI_ok ht, hy]
  · simp only [Option.some.injEq] at h
    subst h
    show _ = _
    rw [oblB_ok ht, hy]
  · simp only [Option.some.injEq] at h
    subst h
    show _ = _
    rw [oblS_ok ht, hy]
  · simp only [Option.some.injEq] at h
    subst h
    show (y.den e').T = []
    rw [← hy, ← oblT_ok ht]; rfl
  · rename_i ks ks' a
    cases hk : ks'.same ks with
    | false => rw [hk] at h; cases h
    | true =>
      rw [hk] at h
      simp only [cond_true, Option.some.injEq] at h
      subst h
      exact ⟨DKs.same_eq hk, by rw [oblT_ok ht, hy]⟩
theorem cellObl_ok (hn : Nexts e e' pr okv) {c : Col} {x : SV} {ix : E} {z : Int} (hz : (ix.den e).I = z) {l : List Ob} (h : cellObl pr c x ix = some l) (ht : AllT e l) : SV.ent e e' σ x (c.at (.il z)) := by
  have hfn : ∀ c, (E.fn c ix).den e = (E.fn c (.il z)).den e' := fun c => by simp only [E.den, hz, hn.fn]; rfl
  cases c with
  | int k c => exact treeC_ok (k := .int k) h ht (hfn c)
  | bool c => exact treeC_ok (k := .bool) h ht (hfn c)
  | str c => exact treeC_ok (k := .str) h ht (hfn c)
  | dsl ks c => exact treeC_ok (k := .sl ks) h ht (hfn c)
  | tc k y j =>
    refine treeC_ok h ht ?_
    simp only [E.den, E.prime_den hn, O2.den, hz]
    rfl
  | val c => cases h

theorem rowObl_ok (hn : Nexts e e' pr okv) {ix : E} {z : Int} (hz : (ix.den e).I = z) : ∀ {cols : List Col} {t : List SV} {l : List Ob}, rowObl pr cols t ix = some l → AllT e l →
    ∀ (j : Nat) (col : Col), cols[j]? = some col → ∃ x, t[j]? = some x ∧ SV.ent e e' σ x (col.at (.il z))
  | [], t, l, _, _, j, col, hj => by simp at hj
  | c :: cs, [], l, h, _, _, _, _ => by simp [rowObl] at h
  | c :: cs, x :: xs, l, h, ht, j, col, hj => by
    simp only [rowObl] at h
    obtain ⟨l1, l2, h1, h2, rfl⟩ := obl2_some h
    obtain ⟨t1, t2⟩ := allT_append.1 ht
    cases j with
    | zero =>
      simp at hj; subst hj
      exact ⟨x, rfl, cellObl_ok hn hz h1 t1⟩
    | succ j =>
      obtain ⟨y, hy, hent⟩ := rowObl_ok hn hz h2 t2 j col (by simpa using hj)
      exact ⟨y, by simpa using hy, hent⟩

theorem tailObl_ok (hn : Nexts e e' pr okv) {cols : List Col} {len : E} : ∀ {tail : List (List SV)} {k0 : Nat} {l : List Ob}, tailObl pr cols len k0 tail = some l → AllT e l →
    ∀ (j : Nat) (col : Col), cols[j]? = some col → ∀ (k : Nat) (t : List SV), tail[k]? = some t → ∃ x, t[j]? = some x ∧ SV.ent e e' σ x (col.at (.il ((len.den e).I + (k0 + k : Nat))))
  | [], k0, l, _, _, j, col, hj, k, t, hk => by simp at hk
  | u :: r, k0, l, h, ht, j, col, hj, k, t, hk => by
    simp only [tailObl] at h
    obtain ⟨l1, l2, h1, h2, rfl⟩ := obl2_some h
    obtain ⟨t1, t2⟩ := allT_append.1 ht
    cases k with
    | zero =>
      simp at hk; subst hk
      exact rowObl_ok hn (z := (len.den e).I + (k0 + 0 : Nat)) (by rw [addI_I]; rfl) h1 t1 j col hj
    | succ k =>
      have := tailObl_ok hn h2 t2 j col hj k t (by simpa using hk)
      rw [show k0 + 1 + k = k0 + (k + 1) by omega] at this
      exact this

end

end Go.Sx
