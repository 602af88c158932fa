/-
  SX, PART 2: symbolic values, objects, the heap of named objects, small programs over it, and what they mean.
-/
import Derived.Test.YtckdphmpafopmaaSxCore
namespace Go.Sx
open Go.RowKit
set_option linter.unusedVariables false

/-! ## Symbolic values -/
inductive Off where
  | c (j : Nat)
  | el (i : E) (sz j : Nat)
  deriving Inhabited, Repr

inductive FE where
  | l (bits : Nat)
  | ofI (e : E)
  | mul (a b : FE)
  deriving Inhabited, Repr

deriving instance Repr for FieldStep, Fn

/-! ### what never changes: slices in slices, read as trees -/
mutual
/-- The kind of a cell of data. -/
inductive DK where
  | int (k : IntKind)
  | bool
  | str
  | sl (ks : DKs)
inductive DKs where
  | nil
  | cons (k : DK) (r : DKs)
end
instance : Inhabited DK := ⟨.bool⟩
instance : Inhabited DKs := ⟨.nil⟩
def DKs.len : DKs → Nat
  | .nil => 0
  | .cons _ r => r.len + 1
def DKs.get : DKs → Nat → Option DK
  | .nil, _ => none
  | .cons k _, 0 => some k
  | .cons _ r, j + 1 => r.get j
def fzcell (fz : Nat → Option Obj) (b j : Nat) : Option Value :=
  match fz b with
  | some (.cells c _ _) => c[j]?
  | _ => none
mutual
def DK.Rel (fz : Nat → Option Obj) : DK → Dv → Value → Prop
  | .int k, d, v => v = .int k d.I
  | .bool, d, v => v = .bool d.B
  | .str, d, v => v = .string d.S
  | .sl ks, d, v => ∃ A cap, v = .slice A d.T.length cap ∧ d.T.length ≤ cap ∧ (0 < d.T.length → ∃ b o, A = some ⟨b, o, none⟩ ∧ ∀ i, i < d.T.length → ks.Rel fz (fun j => d.at i j) (fun j => fzcell fz b (o + i * ks.len + j)) 0)
def DKs.Rel (fz : Nat → Option Obj) : DKs → (Nat → Dv) → (Nat → Option Value) → Nat → Prop
  | .nil, _, _, _ => True
  | .cons k r, row, cell, j => (∃ v, cell j = some v ∧ k.Rel fz (row j) v) ∧ r.Rel fz row cell (j + 1)
end
theorem fzcell_mono {fz fz' : Nat → Option Obj} (h : ∀ b x, fz b = some x → fz' b = some x) {b j : Nat} {v : Value} (hv : fzcell fz b j = some v) : fzcell fz' b j = some v := by
  unfold fzcell at hv ⊢
  cases hb : fz b with
  | none => rw [hb] at hv; cases hv
  | some x => rw [hb] at hv; rw [h b x hb]; exact hv
mutual
theorem DK.Rel.mono {fz fz' : Nat → Option Obj} (h : ∀ b x, fz b = some x → fz' b = some x) : ∀ {k : DK} {d : Dv} {v : Value}, k.Rel fz d v → k.Rel fz' d v
  | .int _, _, _, r => r
  | .bool, _, _, r => r
  | .str, _, _, r => r
  | .sl ks, d, v, r => by
    simp only [DK.Rel] at r ⊢
    obtain ⟨A, cap, h1, h2, h3⟩ := r
    refine ⟨A, cap, h1, h2, fun hl => ?_⟩
    obtain ⟨b, o, h4, h5⟩ := h3 hl
    exact ⟨b, o, h4, fun i hi => DKs.Rel.mono h (fun j v hv => fzcell_mono h hv) (h5 i hi)⟩
theorem DKs.Rel.mono {fz fz' : Nat → Option Obj} (h : ∀ b x, fz b = some x → fz' b = some x) : ∀ {ks : DKs} {row : Nat → Dv} {cell cell' : Nat → Option Value} {j : Nat}, (∀ j v, cell j = some v → cell' j = some v) → ks.Rel fz row cell j → ks.Rel fz' row cell' j
  | .nil, _, _, _, _, _, _ => trivial
  | .cons k ks, _, _, _, _, hc, r => by
    simp only [DKs.Rel] at r ⊢
    obtain ⟨⟨v, h1, h2⟩, h3⟩ := r
    exact ⟨⟨v, hc _ _ h1, DK.Rel.mono h h2⟩, DKs.Rel.mono h hc h3⟩
end
mutual
def DK.same : DK → DK → Bool
  | .int .i8, .int .i8 => true
  | .int .i16, .int .i16 => true
  | .int .i32, .int .i32 => true
  | .int .i64, .int .i64 => true
  | .int .u8, .int .u8 => true
  | .int .u16, .int .u16 => true
  | .int .u32, .int .u32 => true
  | .int .u64, .int .u64 => true
  | .bool, .bool => true
  | .str, .str => true
  | .sl a, .sl b => DKs.same a b
  | _, _ => false
def DKs.same : DKs → DKs → Bool
  | .nil, .nil => true
  | .cons a r, .cons b s => cond (DK.same a b) (DKs.same r s) false
  | _, _ => false
end
mutual
theorem DK.same_eq : ∀ {a b : DK}, a.same b = true → a = b := by
  intro a b h
  cases a with
  | int k => cases b with
    | int l => cases k <;> cases l <;> first | rfl | (simp [DK.same] at h)
    | _ => cases k <;> simp [DK.same] at h
  | bool => cases b <;> first | rfl | (simp [DK.same] at h)
  | str => cases b <;> first | rfl | (simp [DK.same] at h)
  | sl x => cases b with
    | sl y => simp only [DK.same] at h; rw [DKs.same_eq h]
    | _ => simp [DK.same] at h
theorem DKs.same_eq : ∀ {a b : DKs}, a.same b = true → a = b := by
  intro a b h
  cases a with
  | nil => cases b <;> first | rfl | (simp [DKs.same] at h)
  | cons x r => cases b with
    | nil => simp [DKs.same] at h
    | cons y s =>
      simp only [DKs.same] at h
      cases h1 : x.same y with
      | false => rw [h1] at h; cases h
      | true => rw [h1] at h; rw [DK.same_eq h1, DKs.same_eq h]
end
/-- A slice's reading hangs on its rows alone. -/
theorem DK.Rel.rows {fz : Nat → Option Obj} {ks : DKs} {d d' : Dv} {v : Value} (h : (DK.sl ks).Rel fz d v) (e : d.T = d'.T) : (DK.sl ks).Rel fz d' v := by
  simp only [DK.Rel, Dv.at] at h ⊢
  rw [← e]; exact h
/-- One cell of a row of data. -/
theorem DKs.Rel.get {fz : Nat → Option Obj} : ∀ {ks : DKs} {row : Nat → Dv} {cell : Nat → Option Value} {j i : Nat} {k : DK}, ks.Rel fz row cell j → ks.get i = some k → ∃ v, cell (j + i) = some v ∧ k.Rel fz (row (j + i)) v
  | .nil, _, _, _, i, _, _, h => by simp [DKs.get] at h
  | .cons k r, _, _, j, 0, _, h, hk => by
    simp only [DKs.get, Option.some.injEq] at hk
    subst hk
    simp only [DKs.Rel] at h
    exact h.1
  | .cons k r, _, _, j, i + 1, _, h, hk => by
    simp only [DKs.get] at hk
    simp only [DKs.Rel] at h
    have := DKs.Rel.get h.2 hk
    rw [show j + (i + 1) = j + 1 + i by omega]
    exact this

inductive SV where
  | int (k : IntKind) (e : E)
  | bool (e : E)
  | str (e : E)
  | flt (e : FE)
  | val (c : Nat) (i : E)
  | nilp
  | ptr (n : Nat) (o : Off)
  | anyp
  | nilsl
  | sl (n sz : Nat) (lo len : E)
  | dsl (ks : DKs) (e : E)
  | dptr (ks : DKs) (e i : E) (j : Nat)
  | nilmap
  | map (n : Nat)
  | chan (n : Nat)
  | nilch
  | nilfn
  | fn (f : Fn) (first cap : List SV)
  | nilif
  | ifc (t : TypeId) (x : SV)
  | agg (l : List SV)
  | tup (l : List SV)
  | top
  | cst (v : Value)
  deriving Inhabited

/-- Where a name lies: its block, where it begins there, how many elements there is room for, whether it is a nil slice's. -/
structure Pl where
  block : Nat
  base : Nat
  cap : Nat
  nil : Bool

/-- Where names lie, and the blocks that never change any more, with what they hold. -/
structure PMap where
  pl : Nat → Option Pl
  fz : Nat → Option Obj
instance : CoeFun PMap (fun _ => Nat → Option Pl) := ⟨PMap.pl⟩
structure PMap.le (ρ ρ' : PMap) : Prop where
  pl : ∀ n p, ρ n = some p → ρ' n = some p
  fz : ∀ b x, ρ.fz b = some x → ρ'.fz b = some x
instance {ρ ρ' : PMap} : CoeFun (PMap.le ρ ρ') (fun _ => ∀ n p, ρ n = some p → ρ' n = some p) := ⟨PMap.le.pl⟩
theorem PMap.le_refl (ρ : PMap) : ρ.le ρ := ⟨fun _ _ h => h, fun _ _ h => h⟩
theorem PMap.le_trans {a b c : PMap} (h : a.le b) (k : b.le c) : a.le c := ⟨fun n p e => k n p (h n p e), fun n p e => k.fz n p (h.fz n p e)⟩
/-- The same places by other names. -/
@[reducible] def PMap.re (ρ : PMap) (σ : Nat → Nat) : PMap := ⟨fun n => ρ (σ n), ρ.fz⟩

def Off.den (env : Env) : Off → Nat
  | .c j => j
  | .el i sz j => (i.den env).I.toNat * sz + j

def FE.den (env : Env) : FE → Nat
  | .l b => b
  | .ofI e => FloatKind.f64.nearest (e.den env).I
  | .mul a b => (FloatKind.f64.format.mul (a.den env) (b.den env)).getD 0

mutual
def SV.Rel (env : Env) (ρ : PMap) : SV → Value → Prop
  | .int k e, v => v = .int k (e.den env).I
  | .bool e, v => v = .bool (e.den env).B
  | .str e, v => v = .string (e.den env).S
  | .flt e, v => v = .float .f64 (e.den env)
  | .val c i, v => v = env.val c (i.den env).I
  | .nilp, v => v = .pointer none
  | .ptr n o, v => ∃ p, ρ n = some p ∧ v = .pointer (some ⟨p.block, p.base + o.den env, none⟩)
  | .anyp, v => ∃ a, v = .pointer (some a)
  | .nilsl, v => v = .slice none 0 0
  | .sl n sz lo len, v => ∃ p A, ρ n = some p ∧ v = .slice A (len.den env).I.toNat (p.cap - (lo.den env).I.toNat) ∧
      (A = none ↔ p.nil = true) ∧ ((lo.den env).I.toNat < p.cap → A = some ⟨p.block, p.base + (lo.den env).I.toNat * sz, none⟩) ∧
      (lo.den env).I.toNat + (len.den env).I.toNat ≤ p.cap ∧ 0 ≤ (lo.den env).I
  | .dsl ks e, v => (DK.sl ks).Rel ρ.fz (e.den env) v
  | .dptr ks e i j, v => ∃ b o, v = .pointer (some ⟨b, o + j, none⟩) ∧ ks.Rel ρ.fz (fun j => (e.den env).at (i.den env).I.toNat j) (fun j => fzcell ρ.fz b (o + j)) 0
  | .nilmap, v => v = .map none
  | .map n, v => ∃ p, ρ n = some p ∧ v = .map (some p.block)
  | .chan n, v => ∃ p, ρ n = some p ∧ v = .chan (some p.block)
  | .nilch, v => v = .chan none
  | .nilfn, v => v = .nilFunc
  | .fn f a c, v => ∃ x y, v = .func f x.toArray y.toArray ∧ SV.Rels env ρ a x ∧ SV.Rels env ρ c y
  | .nilif, v => v = .nilIface
  | .ifc t x, v => ∃ y, v = .iface t y ∧ SV.Rel env ρ x y
  | .agg l, v => ∃ x, v = .agg x.toArray ∧ SV.Rels env ρ l x
  | .tup l, v => ∃ x, v = .tuple x.toArray ∧ SV.Rels env ρ l x
  | .top, v => True
  | .cst u, v => v = u
def SV.Rels (env : Env) (ρ : PMap) : List SV → List Value → Prop
  | [], vs => vs = []
  | x :: l, vs => ∃ v r, vs = v :: r ∧ SV.Rel env ρ x v ∧ SV.Rels env ρ l r
end

mutual
theorem SV.Rel.mono {env : Env} {ρ ρ' : PMap} (h : ρ.le ρ') : ∀ {x : SV} {v : Value}, x.Rel env ρ v → x.Rel env ρ' v
  | .int .., _, r => r
  | .bool .., _, r => r
  | .str .., _, r => r
  | .flt .., _, r => r
  | .val .., _, r => r
  | .nilp, _, r => r
  | .ptr .., _, r => by simp only [SV.Rel] at r ⊢; obtain ⟨p, h1, h2⟩ := r; exact ⟨p, h _ _ h1, h2⟩
  | .anyp, _, r => r
  | .nilsl, _, r => r
  | .sl .., _, r => by simp only [SV.Rel] at r ⊢; obtain ⟨p, A, h1, h2⟩ := r; exact ⟨p, A, h _ _ h1, h2⟩
  | .dsl .., _, r => by simp only [SV.Rel] at r ⊢; exact DK.Rel.mono h.fz r
  | .dptr .., _, r => by simp only [SV.Rel] at r ⊢; obtain ⟨b, o, h1, h2⟩ := r; exact ⟨b, o, h1, DKs.Rel.mono h.fz (fun j v hv => fzcell_mono h.fz hv) h2⟩
  | .nilmap, _, r => r
  | .map .., _, r => by simp only [SV.Rel] at r ⊢; obtain ⟨p, h1, h2⟩ := r; exact ⟨p, h _ _ h1, h2⟩
  | .chan .., _, r => by simp only [SV.Rel] at r ⊢; obtain ⟨p, h1, h2⟩ := r; exact ⟨p, h _ _ h1, h2⟩
  | .nilch, _, r => r
  | .nilfn, _, r => r
  | .fn .., _, r => by simp only [SV.Rel] at r ⊢; obtain ⟨x, y, h1, h2, h3⟩ := r; exact ⟨x, y, h1, SV.Rels.mono h h2, SV.Rels.mono h h3⟩
  | .nilif, _, r => r
  | .ifc .., _, r => by simp only [SV.Rel] at r ⊢; obtain ⟨y, h1, h2⟩ := r; exact ⟨y, h1, SV.Rel.mono h h2⟩
  | .agg .., _, r => by simp only [SV.Rel] at r ⊢; obtain ⟨y, h1, h2⟩ := r; exact ⟨y, h1, SV.Rels.mono h h2⟩
  | .tup .., _, r => by simp only [SV.Rel] at r ⊢; obtain ⟨y, h1, h2⟩ := r; exact ⟨y, h1, SV.Rels.mono h h2⟩
  | .top, _, r => r
  | .cst _, _, r => r
theorem SV.Rels.mono {env : Env} {ρ ρ' : PMap} (h : ρ.le ρ') : ∀ {l : List SV} {vs : List Value}, SV.Rels env ρ l vs → SV.Rels env ρ' l vs
  | [], _, r => r
  | x :: l, _, r => by simp only [SV.Rels] at r ⊢; obtain ⟨v, q, h1, h2, h3⟩ := r; exact ⟨v, q, h1, SV.Rel.mono h h2, SV.Rels.mono h h3⟩
end

theorem SV.Rels.length {env : Env} {ρ : PMap} : ∀ {l : List SV} {vs : List Value}, SV.Rels env ρ l vs → vs.length = l.length
  | [], _, r => by simp only [SV.Rels] at r; subst r; rfl
  | x :: l, _, r => by simp only [SV.Rels] at r; obtain ⟨v, q, rfl, _, h⟩ := r; simp [SV.Rels.length h]

theorem SV.Rels.get {env : Env} {ρ : PMap} : ∀ {l : List SV} {vs : List Value} {i : Nat} {x : SV}, SV.Rels env ρ l vs → l[i]? = some x → ∃ v, vs[i]? = some v ∧ x.Rel env ρ v
  | [], _, _, _, _, h => by simp at h
  | y :: l, _, i, x, r, h => by
    simp only [SV.Rels] at r
    obtain ⟨v, q, rfl, hv, hq⟩ := r
    cases i with
    | zero => simp at h; subst h; exact ⟨v, rfl, hv⟩
    | succ i => simp at h; obtain ⟨v', h1, h2⟩ := SV.Rels.get hq h; exact ⟨v', by simpa using h1, h2⟩

theorem SV.Rels.append {env : Env} {ρ : PMap} : ∀ {l m : List SV} {vs ws : List Value}, SV.Rels env ρ l vs → SV.Rels env ρ m ws → SV.Rels env ρ (l ++ m) (vs ++ ws)
  | [], _, _, _, r, s => by simp only [SV.Rels] at r; subst r; exact s
  | x :: l, _, _, _, r, s => by
    simp only [SV.Rels] at r
    obtain ⟨v, q, rfl, hv, hq⟩ := r
    exact ⟨v, _, rfl, hv, SV.Rels.append hq s⟩

theorem SV.Rels.take {env : Env} {ρ : PMap} : ∀ {l : List SV} {vs : List Value} (n : Nat), SV.Rels env ρ l vs → SV.Rels env ρ (l.take n) (vs.take n)
  | [], _, n, r => by simp only [SV.Rels] at r; subst r; simp [SV.Rels]
  | x :: l, _, n, r => by
    simp only [SV.Rels] at r
    obtain ⟨v, q, rfl, hv, hq⟩ := r
    cases n with
    | zero => simp [SV.Rels]
    | succ n => simp only [List.take_succ_cons, SV.Rels]; exact ⟨v, _, rfl, hv, SV.Rels.take n hq⟩

theorem SV.Rels.drop {env : Env} {ρ : PMap} : ∀ {l : List SV} {vs : List Value} (n : Nat), SV.Rels env ρ l vs → SV.Rels env ρ (l.drop n) (vs.drop n)
  | [], _, n, r => by simp only [SV.Rels] at r; subst r; simp [SV.Rels]
  | x :: l, _, n, r => by
    cases n with
    | zero => exact r
    | succ n =>
      simp only [SV.Rels] at r
      obtain ⟨v, q, rfl, hv, hq⟩ := r
      exact SV.Rels.drop n hq

theorem SV.Rels.set {env : Env} {ρ : PMap} : ∀ {l : List SV} {vs : List Value} (i : Nat) {x : SV} {v : Value}, SV.Rels env ρ l vs → x.Rel env ρ v → SV.Rels env ρ (l.set i x) (vs.set i v)
  | [], _, n, _, _, r, _ => by simp only [SV.Rels] at r; subst r; simp [SV.Rels]
  | y :: l, _, i, x, v, r, hx => by
    simp only [SV.Rels] at r
    obtain ⟨u, q, rfl, hv, hq⟩ := r
    cases i with
    | zero => exact ⟨v, q, rfl, hx, hq⟩
    | succ i => exact ⟨u, _, rfl, hv, SV.Rels.set i hq hx⟩

/-! ## Objects and the heap -/
/-- A cell of a tree, by its kind. -/
def dcellS : DK → E → SV
  | .int k, e => .int k e
  | .bool, e => .bool e
  | .str, e => .str e
  | .sl ks, e => .dsl ks e
/-- A column: a family of numbers, booleans, texts, values, trees; or a tree's own cells. -/
inductive Col where
  | int (k : IntKind) (c : Nat)
  | bool (c : Nat)
  | str (c : Nat)
  | val (c : Nat)
  | dsl (ks : DKs) (c : Nat)
  | tc (k : DK) (e : E) (j : Nat)
  deriving Inhabited
def Col.at : Col → E → SV
  | .int k c, i => .int k (.fn c i)
  | .bool c, i => .bool (.fn c i)
  | .str c, i => .str (.fn c i)
  | .val c, i => .val c i
  | .dsl ks c, i => .dsl ks (.fn c i)
  | .tc k e j, i => dcellS k (.o2 (.cell j) e i)
theorem dcellS_rel {env : Env} {ρ : PMap} {k : DK} {x : E} {v : Value} : (dcellS k x).Rel env ρ v ↔ k.Rel ρ.fz (x.den env) v := by
  cases k <;> simp only [dcellS, SV.Rel, DK.Rel]

/-! ### maps: kinds of keys, contents -/
inductive KK where
  | int (k : IntKind)
  | bool
  | str
  deriving Inhabited, Repr
def kkSame : KK → KK → Bool
  | .int .i8, .int .i8 | .int .i16, .int .i16 | .int .i32, .int .i32 | .int .i64, .int .i64 | .int .u8, .int .u8 | .int .u16, .int .u16 | .int .u32, .int .u32 | .int .u64, .int .u64 => true
  | .bool, .bool => true
  | .str, .str => true
  | _, _ => false
theorem kkSame_eq {a b : KK} (h : kkSame a b = true) : a = b := by
  cases a <;> cases b <;> first
    | rfl
    | (rename_i x y; cases x <;> cases y <;> first | rfl | (cases h; done))
    | (cases h; done)
    | (rename_i x; cases x <;> (cases h; done))
def KK.ok : KK → Value → Prop
  | .int k, v => ∃ n, v = .int k n
  | .bool, v => ∃ b, v = .bool b
  | .str, v => ∃ s, v = .string s
def keyEq : Value → Value → Bool
  | .int _ a, .int _ b => a == b
  | .bool a, .bool b => a == b
  | .string a, .string b => a.toList == b.toList
  | _, _ => false
theorem keyEq_iff {kk : KK} {a b : Value} (ha : kk.ok a) (hb : kk.ok b) : keyEq a b = true ↔ a = b := by
  cases kk with
  | int k => obtain ⟨x, rfl⟩ := ha; obtain ⟨y, rfl⟩ := hb; simp [keyEq]
  | bool => obtain ⟨x, rfl⟩ := ha; obtain ⟨y, rfl⟩ := hb; simp [keyEq]
  | str =>
    obtain ⟨x, rfl⟩ := ha; obtain ⟨y, rfl⟩ := hb
    constructor
    · intro h
      have h : (x.toList == y.toList) = true := h
      have h2 : x.toList = y.toList := by simpa using h
      have t : ∀ z : ByteArray, z.toList = z.data.toList := fun z => by
        have : z = ByteArray.mk z.data.toList.toArray := by cases z; simp
        rw [this, ByteArray.toList_mk]
      rw [t, t] at h2
      have e : x = y := ByteArray.ext (Array.toList_inj.1 h2)
      rw [e]
    · intro h; injection h with h; subst h; simp [keyEq]
/-- What a map holds, by what is known of some keys and by the rest. -/
def cont : List (Value × Option Value) → (Value → Option Value) → Value → Option Value
  | [], r, k => r k
  | (k', v) :: l, r, k => cond (keyEq k' k) v (cont l r k)
def res (env : Env) (m : Nat) (i : Int) : Value → Option Value :=
  match m with
  | 0 => fun _ => none
  | m => env.mp m i
mutual
/-- The value of what holds no names. -/
def SV.fl (env : Env) : SV → Option Value
  | .int k e => some (.int k (e.den env).I)
  | .bool e => some (.bool (e.den env).B)
  | .str e => some (.string (e.den env).S)
  | .val c i => some (env.val c (i.den env).I)
  | .nilp => some (.pointer none)
  | .nilsl => some (.slice none 0 0)
  | .nilif => some .nilIface
  | .agg l => (SV.fls env l).map fun vs => .agg vs.toArray
  | _ => none
def SV.fls (env : Env) : List SV → Option (List Value)
  | [] => some []
  | x :: l =>
    match SV.fl env x, SV.fls env l with
    | some v, some vs => some (v :: vs)
    | _, _ => none
end
mutual
theorem SV.fl_ok {env : Env} {ρ : PMap} : ∀ {x : SV} {u v : Value}, SV.fl env x = some u → x.Rel env ρ v → v = u
  | .int .., _, _, h, r => by simp only [SV.fl, Option.some.injEq] at h; simp only [SV.Rel] at r; rw [r, h]
  | .bool .., _, _, h, r => by simp only [SV.fl, Option.some.injEq] at h; simp only [SV.Rel] at r; rw [r, h]
  | .str .., _, _, h, r => by simp only [SV.fl, Option.some.injEq] at h; simp only [SV.Rel] at r; rw [r, h]
  | .val .., _, _, h, r => by simp only [SV.fl, Option.some.injEq] at h; simp only [SV.Rel] at r; rw [r, h]
  | .nilp, _, _, h, r => by simp only [SV.fl, Option.some.injEq] at h; simp only [SV.Rel] at r; rw [r, h]
  | .nilsl, _, _, h, r => by simp only [SV.fl, Option.some.injEq] at h; simp only [SV.Rel] at r; rw [r, h]
  | .nilif, _, _, h, r => by simp only [SV.fl, Option.some.injEq] at h; simp only [SV.Rel] at r; rw [r, h]
  | .agg l, _, _, h, r => by
    simp only [SV.fl, Option.map_eq_some_iff] at h
    obtain ⟨vs, h1, h2⟩ := h
    simp only [SV.Rel] at r
    obtain ⟨us, r1, r2⟩ := r
    rw [r1, ← h2, SV.fls_ok h1 r2]
  | .flt .., _, _, h, _ => by simp [SV.fl] at h
  | .ptr .., _, _, h, _ => by simp [SV.fl] at h
  | .anyp, _, _, h, _ => by simp [SV.fl] at h
  | .sl .., _, _, h, _ => by simp [SV.fl] at h
  | .nilmap, _, _, h, _ => by simp [SV.fl] at h
  | .map .., _, _, h, _ => by simp [SV.fl] at h
  | .chan .., _, _, h, _ => by simp [SV.fl] at h
  | .nilch, _, _, h, _ => by simp [SV.fl] at h
  | .nilfn, _, _, h, _ => by simp [SV.fl] at h
  | .fn .., _, _, h, _ => by simp [SV.fl] at h
  | .ifc .., _, _, h, _ => by simp [SV.fl] at h
  | .tup .., _, _, h, _ => by simp [SV.fl] at h
  | .top, _, _, h, _ => by simp [SV.fl] at h
  | .cst .., _, _, h, _ => by simp [SV.fl] at h
theorem SV.fls_ok {env : Env} {ρ : PMap} : ∀ {l : List SV} {us vs : List Value}, SV.fls env l = some us → SV.Rels env ρ l vs → vs = us
  | [], us, vs, h, r => by simp only [SV.fls, Option.some.injEq] at h; simp only [SV.Rels] at r; rw [r, h]
  | x :: l, us, vs, h, r => by
    simp only [SV.fls] at h
    split at h
    · rename_i u us' h1 h2
      injection h with h; subst h
      simp only [SV.Rels] at r
      obtain ⟨v, q, rfl, r1, r2⟩ := r
      rw [SV.fl_ok h1 r1, SV.fls_ok h2 r2]
    · cases h
end
/-- What is known of a key: it is not there, it is there with this, or it may be. -/
inductive KV where
  | no
  | yes (x : SV)
  | may (b : E) (x : SV)
  deriving Inhabited
def flO (env : Env) : KV → Option (Option Value)
  | .no => some none
  | .yes x => (SV.fl env x).map some
  | .may b x => (SV.fl env x).map fun v => cond (b.den env).B (some v) none
def flK (env : Env) : List (SV × KV) → Option (List (Value × Option Value))
  | [] => some []
  | (k, x) :: l =>
    match SV.fl env k, flO env x, flK env l with
    | some a, some b, some r => some ((a, b) :: r)
    | _, _, _ => none

/-! ### what is to be shown -/
inductive Ob where
  | e (x : E)
  | mp (kk : KK) (m : Nat) (ix : E) (known : List (SV × KV)) (m' : Nat) (ix' : E) (known' : List (SV × KV))
  | t (a b : E)
def Ob.den (env : Env) : Ob → Prop
  | .e x => (x.den env).B = true
  | .mp kk m ix known m' ix' known' => ∃ kv kv', flK env known = some kv ∧ flK env known' = some kv' ∧ ∀ k, kk.ok k → cont kv (res env m (ix.den env).I) k = cont kv' (res env m' (ix'.den env).I) k
  | .t a b => (a.den env).T = (b.den env).T

inductive SObj where
  | cells (T : TypeId) (cs : List SV)
  | row (T : TypeId) (sz : Nat) (len : E) (cols : List Col) (tail : List (List SV))
  | inp (sz : Nat) (len : E) (cols : List Col)
  | map (m : Nat) (ix : E) (kk : KK) (sz : E) (known : List (SV × KV))
  | abs (k : Nat) (st : E) (refs : List Nat)
  | chan (closed : E)
  | resv
  | gone
  deriving Inhabited

/-- The heap as a function; and as the executor has it: a list by falling names. -/
abbrev Heap := Nat → Option SObj
def hget (h : Heap) (n : Nat) : Option SObj := h n
def hput (h : Heap) (n : Nat) (x : SObj) : Heap := fun k => if k = n then some x else h k
theorem hget_hput (h : Heap) (n : Nat) (x : SObj) (k : Nat) : hget (hput h n x) k = if k = n then some x else hget h k := rfl

abbrev CHeap := List (Nat × SObj)
def cget : CHeap → Nat → Option SObj
  | [], _ => none
  | (m, o) :: r, n => cond (Nat.beq m n) (some o) (cget r n)
def cput : CHeap → Nat → SObj → CHeap
  | [], n, x => [(n, x)]
  | (m, o) :: r, n, x => cond (Nat.beq m n) ((n, x) :: r) (cond (Nat.blt m n) ((n, x) :: (m, o) :: r) ((m, o) :: cput r n x))
def cden (c : CHeap) : Heap := fun n => cget c n

theorem cden_cput (h : CHeap) (n : Nat) (x : SObj) : cden (cput h n x) = hput (cden h) n x := by
  funext k
  unfold cden hput
  induction h with
  | nil =>
    unfold cput cget cget
    by_cases e : k = n
    · subst e; simp
    · have : Nat.beq n k = false := by rw [Bool.eq_false_iff]; intro h; exact e (Nat.eq_of_beq_eq_true h).symm
      simp [this, e]
  | cons p r ih =>
    obtain ⟨m, o⟩ := p
    unfold cput
    cases h1 : Nat.beq m n with
    | true =>
      obtain rfl := Nat.eq_of_beq_eq_true h1
      simp only [cond_true, cget]
      by_cases e : k = m
      · subst e; simp
      · have : Nat.beq m k = false := by rw [Bool.eq_false_iff]; intro h; exact e (Nat.eq_of_beq_eq_true h).symm
        simp [this, e]
    | false =>
      have hmn : m ≠ n := fun e => by subst e; simp at h1
      cases h2 : Nat.blt m n with
      | true =>
        simp only [cond_false, cond_true, cget]
        by_cases e : k = n
        · subst e; simp
        · have : Nat.beq n k = false := by rw [Bool.eq_false_iff]; intro h; exact e (Nat.eq_of_beq_eq_true h).symm
          simp [this, e]
      | false =>
        simp only [cond_false, cget, ih]
        cases h3 : Nat.beq m k with
        | true =>
          obtain rfl := Nat.eq_of_beq_eq_true h3
          simp [hmn]
        | false => simp

/-! ## Small programs -/
inductive Err where
  | undecided (e : E)
  | msg (s : String)
  deriving Repr
abbrev Ex (α : Type) := Except Err α

inductive Prog (α : Type) : Type where
  | ret (a : α)
  | fail (m : String)
  | get (n : Nat) (k : SObj → Prog α)
  | put (n : Nat) (o : SObj) (k : Prog α)
  | vc (e : Ob) (k : Prog α)
  | dec (e : E) (k : Bool → Prog α)

namespace Prog
def bind {α β : Type} : Prog α → (α → Prog β) → Prog β
  | .ret a, f => f a
  | .fail m, _ => .fail m
  | .get n k, f => .get n fun o => (k o).bind f
  | .put n o k, f => .put n o (k.bind f)
  | .vc e k, f => .vc e (k.bind f)
  | .dec e k, f => .dec e fun b => (k b).bind f
instance : Monad Prog where
  pure := Prog.ret
  bind := Prog.bind
end Prog

/-- What a run has touched: names that it read, names that it wrote. -/
structure Foot where
  rd : List Nat
  wr : List Nat
  deriving Repr

structure ROut (α : Type) where
  a : α
  h : CHeap
  vcs : List Ob
  ft : Foot

def decideO (fs : Facts) : Ob → Option Bool
  | .e x => decideE fs x
  | .t a b => cond (a.same b) (some true) none
  | _ => none
theorem decideO_ok {env : Env} {fs : Facts} (hf : fs.Hold env) {o : Ob} (h : decideO fs o = some true) : o.den env := by
  cases o with
  | e x => exact decideE_ok hf h
  | mp => cases h
  | t a b =>
    simp only [decideO] at h
    cases hs : a.same b with
    | true => show (a.den env).T = (b.den env).T; rw [E.same_eq hs]
    | false => rw [hs] at h; cases h

/-- It runs, under what is known. -/
def Prog.run {α : Type} (fs : Facts) : Prog α → CHeap → List Ob → Foot → Ex (ROut α)
  | .ret a, h, vcs, ft => .ok ⟨a, h, vcs, ft⟩
  | .fail m, _, _, _ => .error (.msg m)
  | .get n k, h, vcs, ft =>
    match cget h n with
    | some o => (k o).run fs h vcs ⟨n :: ft.rd, ft.wr⟩
    | none => .error (.msg "no such name")
  | .put n o k, h, vcs, ft => k.run fs (cput h n o) vcs ⟨ft.rd, n :: ft.wr⟩
  | .vc e k, h, vcs, ft =>
    match decideO fs e with
    | some true => k.run fs h vcs ft
    | some false => .error (.msg "a condition that is false")
    | none => k.run fs h (e :: vcs) ft
  | .dec e k, h, vcs, ft =>
    match decideE fs e with
    | some b => (k b).run fs h vcs ft
    | none => .error (.undecided e)

/-- What it means, in an environment. -/
def Prog.Ev {α : Type} (env : Env) : Prog α → Heap → α → Heap → Foot → Foot → Prop
  | .ret a, h, b, h', ft, ft' => a = b ∧ h = h' ∧ ft = ft'
  | .fail _, _, _, _, _, _ => False
  | .get n k, h, b, h', ft, ft' => ∃ o, hget h n = some o ∧ (k o).Ev env h b h' ⟨n :: ft.rd, ft.wr⟩ ft'
  | .put n o k, h, b, h', ft, ft' => k.Ev env (hput h n o) b h' ⟨ft.rd, n :: ft.wr⟩ ft'
  | .vc e k, h, b, h', ft, ft' => e.den env ∧ k.Ev env h b h' ft ft'
  | .dec e k, h, b, h', ft, ft' => (k (e.den env).B).Ev env h b h' ft ft'

/-- Every run is what it means, if its conditions hold. -/
theorem Prog.run_ev {α : Type} {env : Env} {fs : Facts} (hf : fs.Hold env) : ∀ (p : Prog α) {h : CHeap} {vcs : List Ob} {ft : Foot} {o : ROut α},
    p.run fs h vcs ft = .ok o → (∃ new, o.vcs = new ++ vcs) ∧ ((∀ e ∈ o.vcs, e.den env) → p.Ev env (cden h) o.a (cden o.h) ft o.ft)
  | .ret a, h, vcs, ft, o, hr => by simp only [run] at hr; injection hr with hr; subst hr; exact ⟨⟨[], rfl⟩, fun _ => ⟨rfl, rfl, rfl⟩⟩
  | .fail m, h, vcs, ft, o, hr => by simp only [run] at hr; cases hr
  | .get n k, h, vcs, ft, o, hr => by
    simp only [run] at hr
    cases hg : cget h n with
    | none => rw [hg] at hr; cases hr
    | some x =>
      rw [hg] at hr
      obtain ⟨h1, h2⟩ := run_ev hf (k x) hr
      exact ⟨h1, fun hv => ⟨x, hg, h2 hv⟩⟩
  | .put n x k, h, vcs, ft, o, hr => by
    simp only [run] at hr
    obtain ⟨h1, h2⟩ := run_ev hf k hr
    exact ⟨h1, fun hv => by unfold Ev; rw [← cden_cput]; exact h2 hv⟩
  | .vc e k, h, vcs, ft, o, hr => by
    simp only [run] at hr
    cases hd : decideO fs e with
    | some b =>
      cases b with
      | true =>
        rw [hd] at hr
        obtain ⟨h1, h2⟩ := run_ev hf k hr
        exact ⟨h1, fun hv => ⟨decideO_ok hf hd, h2 hv⟩⟩
      | false => rw [hd] at hr; cases hr
    | none =>
      rw [hd] at hr
      obtain ⟨⟨new, h1⟩, h2⟩ := run_ev hf k hr
      exact ⟨⟨new ++ [e], by rw [h1]; simp⟩, fun hv => ⟨hv e (by rw [h1]; simp), h2 hv⟩⟩
  | .dec e k, h, vcs, ft, o, hr => by
    simp only [run] at hr
    cases hd : decideE fs e with
    | some b =>
      rw [hd] at hr
      obtain ⟨h1, h2⟩ := run_ev hf (k b) hr
      exact ⟨h1, fun hv => by unfold Ev; rw [decideE_ok hf hd]; exact h2 hv⟩
    | none => rw [hd] at hr; cases hr

/-- What it does hangs on what it reads alone. -/
theorem Prog.Ev.local {α : Type} {env : Env} : ∀ {p : Prog α} {h : Heap} {a : α} {h' : Heap} {ft ft' : Foot}, p.Ev env h a h' ft ft' →
    ∃ R W, ft' = ⟨R ++ ft.rd, W ++ ft.wr⟩ ∧ (∀ n, n ∉ W → h' n = h n) ∧
      ∀ (t : Heap) (gt : Foot), (∀ n ∈ R, t n = h n) → ∃ t', p.Ev env t a t' gt ⟨R ++ gt.rd, W ++ gt.wr⟩ ∧ ∀ n, t' n = if n ∈ W then h' n else t n
  | .ret a, h, b, h', ft, ft', ⟨h1, h2, h3⟩ => by
    subst h1; subst h2; subst h3
    exact ⟨[], [], rfl, fun n _ => rfl, fun t gt _ => ⟨t, ⟨rfl, rfl, rfl⟩, fun n => by simp⟩⟩
  | .fail _, _, _, _, _, _, e => e.elim
  | .get n k, h, b, h', ft, ft', ⟨o, h1, h2⟩ => by
    obtain ⟨R, W, e, hw, hl⟩ := Prog.Ev.local h2
    refine ⟨R ++ [n], W, by rw [e]; simp, hw, fun t gt ht => ?_⟩
    obtain ⟨t', g1, g2⟩ := hl t ⟨n :: gt.rd, gt.wr⟩ (fun m hm => ht m (List.mem_append_left _ hm))
    refine ⟨t', ⟨o, ?_, by simpa using g1⟩, g2⟩
    show t n = some o
    rw [ht n (by simp)]
    exact h1
  | .put n o k, h, b, h', ft, ft', h2 => by
    obtain ⟨R, W, e, hw, hl⟩ := Prog.Ev.local (p := k) h2
    refine ⟨R, W ++ [n], by rw [e]; simp, fun m hm => ?_, fun t gt ht => ?_⟩
    · simp only [List.mem_append, List.mem_singleton, not_or] at hm
      rw [hw m hm.1]
      show (if m = n then some o else h m) = h m
      rw [if_neg hm.2]
    · obtain ⟨t', g1, g2⟩ := hl (hput t n o) ⟨gt.rd, n :: gt.wr⟩ (fun m hm => by
        show (if m = n then some o else t m) = (if m = n then some o else h m)
        rw [ht m hm])
      refine ⟨t', by show Prog.Ev env k (hput t n o) b t' ⟨gt.rd, n :: gt.wr⟩ _; simpa using g1, fun m => ?_⟩
      rw [g2 m]
      by_cases hmW : m ∈ W
      · simp [hmW]
      · by_cases hmn : m = n
        · subst hmn
          rw [if_neg hmW, if_pos (by simp), hw m hmW]
          simp [hput]
        · rw [if_neg hmW, if_neg (by simp [hmW, hmn])]
          show (if m = n then some o else t m) = t m
          rw [if_neg hmn]
  | .vc e k, h, b, h', ft, ft', ⟨h1, h2⟩ => by
    obtain ⟨R, W, e, hw, hl⟩ := Prog.Ev.local h2
    refine ⟨R, W, e, hw, fun t gt ht => ?_⟩
    obtain ⟨t', g1, g2⟩ := hl t gt ht
    exact ⟨t', ⟨h1, g1⟩, g2⟩
  | .dec e k, h, b, h', ft, ft', h2 => by
    obtain ⟨R, W, e, hw, hl⟩ := Prog.Ev.local (p := k _) h2
    refine ⟨R, W, e, hw, fun t gt ht => ?_⟩
    obtain ⟨t', g1, g2⟩ := hl t gt ht
    exact ⟨t', g1, g2⟩

end Go.Sx
