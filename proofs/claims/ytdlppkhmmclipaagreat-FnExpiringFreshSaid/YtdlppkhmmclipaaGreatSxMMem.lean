/-
  SX, PART 3: what an operation of the model does to symbolic values and the heap of named objects.
-/
import Derived.Test.YtdlppkhmmclipaaGreatSxMCore
namespace Go.Sx
open Go.RowKit
set_option linter.unusedVariables false
inductive Off where
  | c (j : Nat)
  | el (i : E) (sz j : Nat)
  deriving Inhabited, Repr
inductive FE where
  | l (bits : Nat)
  | ofI (e : E)
  | mul (a b : FE)
  deriving Inhabited, Repr
deriving instance Repr for FieldStep, Fn
mutual
inductive DK where
  | int (k : IntKind)
  | bool
  | str
  | sl (ks : DKs)
  | fp (ks : DKs)
  | ifc (t : TypeId) (k : DK)
  | nilm
  | ap (T : TypeId)
inductive DKs where
  | nil
  | cons (k : DK) (r : DKs)
end
instance : Inhabited DK := ⟨.bool⟩
instance : Inhabited DKs := ⟨.nil⟩
def DKs.len : DKs -> Nat
  | .nil => 0
  | .cons _ r => r.len + 1
def DKs.get : DKs -> Nat -> Option DK
  | .nil, _ => none
  | .cons k _, 0 => some k
  | .cons _ r, j + 1 => r.get j
structure Fz where
  ob : Nat -> Option Obj
  ar : Nat -> Nat -> Option Nat
instance : CoeFun Fz (fun _ => Nat -> Option Obj) := ⟨Fz.ob⟩
structure Fz.le (a b : Fz) : Prop where
  ob : ∀ c x, a c = some x -> b c = some x
  ar : ∀ T i c, a.ar T i = some c -> b.ar T i = some c
instance {a b : Fz} : CoeFun (Fz.le a b) (fun _ => ∀ c x, a c = some x -> b c = some x) := ⟨Fz.le.ob⟩
theorem Fz.le_refl (a : Fz) : Fz.le a a := ⟨fun _ _ h => h, fun _ _ _ h => h⟩
theorem Fz.le_trans {a b c : Fz} (h : a.le b) (k : b.le c) : a.le c := ⟨fun n p e => k n p (h n p e), fun T i p e => k.ar T i p (h.ar T i p e)⟩
def apRel (fz : Fz) (T : Nat) (z : Int) (j : Nat) (v : Value) : Prop := (z < 0 /\ v = .pointer none) \/ (0 <= z /\ ∃ b, fz.ar T z.toNat = some b /\ v = .pointer (some ⟨b, j, none⟩))
theorem apRel.mono {fz fz' : Fz} (h : Fz.le fz fz') {T : Nat} {z : Int} {j : Nat} {v : Value} (r : apRel fz T z j v) : apRel fz' T z j v := by
  rcases r with r | ⟨h0, b, h1, h2⟩
  . exact .inl r
  . exact .inr ⟨h0, b, h.ar _ _ _ h1, h2⟩
def fzcell (fz : Fz) (b j : Nat) : Option Value :=
  match fz b with
  | some (.cells c _ _) => c[j]?
  | _ => none
mutual
def DK.Rel (fz : Fz) : DK -> Dv -> Value -> Prop
  | .int k, d, v => v = .int k d.I
  | .bool, d, v => v = .bool d.B
  | .str, d, v => v = .string d.S
  | .sl ks, d, v => ∃ A cap, v = .slice A d.T.length cap /\ d.T.length <= cap /\ (0 < d.T.length -> ∃ b o, A = some ⟨b, o, none⟩ /\ ∀ i, i < d.T.length -> ks.Rel fz (fun j => d.at i j) (fun j => fzcell fz b (o + i * ks.len + j)) 0)
  | .fp ks, d, v => ∃ b o, v = .pointer (some ⟨b, o, none⟩) /\ ks.Rel fz (fun j => d.at 0 j) (fun j => fzcell fz b (o + j)) 0
  | .ifc t k, d, v => ∃ y, v = .iface t y /\ k.Rel fz d y
  | .nilm, _, v => v = .map none
  | .ap T, d, v => apRel fz T d.I 0 v
def DKs.Rel (fz : Fz) : DKs -> (Nat -> Dv) -> (Nat -> Option Value) -> Nat -> Prop
  | .nil, _, _, _ => True
  | .cons k r, row, cell, j => (∃ v, cell j = some v /\ k.Rel fz (row j) v) /\ r.Rel fz row cell (j + 1)
end
theorem fzcell_mono {fz fz' : Fz} (h : Fz.le fz fz') {b j : Nat} {v : Value} (hv : fzcell fz b j = some v) : fzcell fz' b j = some v := by
  unfold fzcell at hv ⊢; cases hb : fz b with
  | none => rw [hb] at hv; cases hv
  | some x => rw [hb] at hv; rw [h b x hb]; exact hv
mutual
theorem DK.Rel.mono {fz fz' : Fz} (h : Fz.le fz fz') : ∀ {k : DK} {d : Dv} {v : Value}, k.Rel fz d v -> k.Rel fz' d v
  | .int _, _, _, r => r
  | .bool, _, _, r => r
  | .str, _, _, r => r
  | .sl ks, d, v, r => by
    simp only [DK.Rel] at r ⊢; obtain ⟨A, cap, h1, h2, h3⟩ := r; refine ⟨A, cap, h1, h2, fun hl => ?_⟩; obtain ⟨b, o, h4, h5⟩ := h3 hl; exact ⟨b, o, h4, fun i hi => DKs.Rel.mono h (fun j v hv => fzcell_mono h hv) (h5 i hi)⟩
  | .fp ks, d, v, r => by
    simp only [DK.Rel] at r ⊢; obtain ⟨b, o, h1, h2⟩ := r; exact ⟨b, o, h1, DKs.Rel.mono h (fun j v hv => fzcell_mono h hv) h2⟩
  | .ifc t k, d, v, r => by
    simp only [DK.Rel] at r ⊢; obtain ⟨y, h1, h2⟩ := r; exact ⟨y, h1, DK.Rel.mono h h2⟩
  | .nilm, _, _, r => r
  | .ap _, _, _, r => by simp only [DK.Rel] at r ⊢; exact r.mono h
theorem DKs.Rel.mono {fz fz' : Fz} (h : Fz.le fz fz') : ∀ {ks : DKs} {row : Nat -> Dv} {cell cell' : Nat -> Option Value} {j : Nat}, (∀ j v, cell j = some v -> cell' j = some v) -> ks.Rel fz row cell j -> ks.Rel fz' row cell' j
  | .nil, _, _, _, _, _, _ => trivial
  | .cons k ks, _, _, _, _, hc, r => by
    simp only [DKs.Rel] at r ⊢; obtain ⟨⟨v, h1, h2⟩, h3⟩ := r; exact ⟨⟨v, hc _ _ h1, DK.Rel.mono h h2⟩, DKs.Rel.mono h hc h3⟩
end
mutual
def DK.same : DK -> DK -> Bool
  | .int .i8, .int .i8 => true
  | .int .i16, .int .i16 => true
  | .int .i32, .int .i32 => true
  | .int .i64, .int .i64 => true
  | .int .u8, .int .u8 => true
  | .int .u16, .int .u16 => true
  | .int .u32, .int .u32 => true
  | .int .u64, .int .u64 => true
  | .bool, .bool => true
  | .str, .str => true
  | .sl a, .sl b => DKs.same a b
  | .fp a, .fp b => DKs.same a b
  | .ifc t a, .ifc u b => cond (Nat.beq t u) (DK.same a b) false
  | .nilm, .nilm => true
  | .ap a, .ap b => Nat.beq a b
  | _, _ => false
def DKs.same : DKs -> DKs -> Bool
  | .nil, .nil => true
  | .cons a r, .cons b s => cond (DK.same a b) (DKs.same r s) false
  | _, _ => false
end
mutual
theorem DK.same_eq : ∀ {a b : DK}, a.same b = true -> a = b := by
  intro a b h; cases a with
  | int k => cases b with
    | int l => cases k <;> cases l <;> first | rfl | (simp [DK.same] at h)
    | _ => cases k <;> simp [DK.same] at h
  | bool => cases b <;> first | rfl | (simp [DK.same] at h)
  | str => cases b <;> first | rfl | (simp [DK.same] at h)
  | sl x => cases b with
    | sl y => simp only [DK.same] at h; rw [DKs.same_eq h]
    | _ => simp [DK.same] at h
  | fp x => cases b with
    | fp y => simp only [DK.same] at h; rw [DKs.same_eq h]
    | _ => simp [DK.same] at h
  | ifc t x => cases b with
    | ifc u y =>
      simp only [DK.same] at h; cases h1 : Nat.beq t u with
      | false => rw [h1] at h; cases h
      | true => rw [h1] at h; rw [Nat.eq_of_beq_eq_true h1, DK.same_eq h]
    | _ => simp [DK.same] at h
  | nilm => cases b <;> first | rfl | (simp [DK.same] at h)
  | ap x => cases b with
    | ap y => simp only [DK.same] at h; rw [Nat.eq_of_beq_eq_true h]
    | _ => simp [DK.same] at h
theorem DKs.same_eq : ∀ {a b : DKs}, a.same b = true -> a = b := by
  intro a b h; cases a with
  | nil => cases b <;> first | rfl | (simp [DKs.same] at h)
  | cons x r => cases b with
    | nil => simp [DKs.same] at h
    | cons y s =>
      simp only [DKs.same] at h; cases h1 : x.same y with
      | false => rw [h1] at h; cases h
      | true => rw [h1] at h; rw [DK.same_eq h1, DKs.same_eq h]
end
theorem DK.Rel.rows {fz : Fz} {ks : DKs} {d d' : Dv} {v : Value} (h : (DK.sl ks).Rel fz d v) (e : d.T = d'.T) : (DK.sl ks).Rel fz d' v := by
  simp only [DK.Rel, Dv.at] at h ⊢; rw [<- e]; exact h
theorem DKs.Rel.get {fz : Fz} : ∀ {ks : DKs} {row : Nat -> Dv} {cell : Nat -> Option Value} {j i : Nat} {k : DK}, ks.Rel fz row cell j -> ks.get i = some k -> ∃ v, cell (j + i) = some v /\ k.Rel fz (row (j + i)) v
  | .nil, _, _, _, i, _, _, h => by simp [DKs.get] at h
  | .cons k r, _, _, j, 0, _, h, hk => by
    simp only [DKs.get, Option.some.injEq] at hk; subst hk; simp only [DKs.Rel] at h; exact h.1
  | .cons k r, _, _, j, i + 1, _, h, hk => by
    simp only [DKs.get] at hk; simp only [DKs.Rel] at h; have := DKs.Rel.get h.2 hk; rw [show j + (i + 1) = j + 1 + i by omega]
    exact this
inductive SV where
  | int (k : IntKind) (e : E)
  | bool (e : E)
  | str (e : E)
  | flt (e : FE)
  | val (c : Nat) (i : E)
  | nilp
  | ptr (n : Nat) (o : Off)
  | anyp
  | nilsl
  | sl (n sz : Nat) (lo len : E)
  | dsl (ks : DKs) (e : E)
  | dslx (ks : DKs) (e : E)
  | dptr (ks : DKs) (e i : E) (j : Nat)
  | apt (T : TypeId) (i : E) (j : Nat)
  | nilmap
  | map (n : Nat)
  | chan (n : Nat)
  | nilch
  | nilfn
  | fn (f : Fn) (first cap : List SV)
  | nilif
  | ifc (t : TypeId) (x : SV)
  | agg (l : List SV)
  | tup (l : List SV)
  | top
  | cst (v : Value)
  deriving Inhabited
structure Pl where
  block : Nat
  base : Nat
  cap : Nat
  nil : Bool
  gh : Option (Nat × List (Value × Nat))
structure PMap where
  pl : Nat -> Option Pl
  fz : Fz
instance : CoeFun PMap (fun _ => Nat -> Option Pl) := ⟨PMap.pl⟩
structure PMap.le (ρ ρ' : PMap) : Prop where
  pl : ∀ n p, ρ n = some p -> ρ' n = some p
  fz : Fz.le ρ.fz ρ'.fz
instance {ρ ρ' : PMap} : CoeFun (PMap.le ρ ρ') (fun _ => ∀ n p, ρ n = some p -> ρ' n = some p) := ⟨PMap.le.pl⟩
theorem PMap.le_refl (ρ : PMap) : ρ.le ρ := ⟨fun _ _ h => h, Fz.le_refl _⟩
theorem PMap.le_trans {a b c : PMap} (h : a.le b) (k : b.le c) : a.le c := ⟨fun n p e => k n p (h n p e), Fz.le_trans h.fz k.fz⟩
@[reducible] def PMap.re (ρ : PMap) (σ : Nat -> Nat) : PMap := ⟨fun n => ρ (σ n), ρ.fz⟩
def Off.den (env : Env) : Off -> Nat
  | .c j => j
  | .el i sz j => (i.den env).I.toNat * sz + j
def FE.den (env : Env) : FE -> Nat
  | .l b => b
  | .ofI e => FloatKind.f64.nearest (e.den env).I
  | .mul a b => (FloatKind.f64.format.mul (a.den env) (b.den env)).getD 0
mutual
def SV.Rel (env : Env) (ρ : PMap) : SV -> Value -> Prop
  | .int k e, v => v = .int k (e.den env).I
  | .bool e, v => v = .bool (e.den env).B
  | .str e, v => v = .string (e.den env).S
  | .flt e, v => v = .float .f64 (e.den env)
  | .val c i, v => v = env.val c (i.den env).I
  | .nilp, v => v = .pointer none
  | .ptr n o, v => ∃ p, ρ n = some p /\ v = .pointer (some ⟨p.block, p.base + o.den env, none⟩)
  | .anyp, v => ∃ a, v = .pointer (some a)
  | .nilsl, v => v = .slice none 0 0
  | .sl n sz lo len, v => ∃ p A, ρ n = some p /\ v = .slice A (len.den env).I.toNat (p.cap - (lo.den env).I.toNat) /\
      (A = none ↔ p.nil = true) /\ ((lo.den env).I.toNat < p.cap -> A = some ⟨p.block, p.base + (lo.den env).I.toNat * sz, none⟩) /\
      (lo.den env).I.toNat + (len.den env).I.toNat <= p.cap /\ 0 <= (lo.den env).I
  | .dsl ks e, v => (DK.sl ks).Rel ρ.fz (e.den env) v
  | .dslx ks e, v => (DK.sl ks).Rel ρ.fz (e.den env) v /\ ∃ A n, v = .slice A n n
  | .dptr ks e i j, v => ∃ b o, v = .pointer (some ⟨b, o + j, none⟩) /\ ks.Rel ρ.fz (fun j => (e.den env).at (i.den env).I.toNat j) (fun j => fzcell ρ.fz b (o + j)) 0
  | .apt T i j, v => apRel ρ.fz T (i.den env).I j v
  | .nilmap, v => v = .map none
  | .map n, v => ∃ p, ρ n = some p /\ v = .map (some p.block)
  | .chan n, v => ∃ p, ρ n = some p /\ v = .chan (some p.block)
  | .nilch, v => v = .chan none
  | .nilfn, v => v = .nilFunc
  | .fn f a c, v => ∃ x y, v = .func f x.toArray y.toArray /\ SV.Rels env ρ a x /\ SV.Rels env ρ c y
  | .nilif, v => v = .nilIface
  | .ifc t x, v => ∃ y, v = .iface t y /\ SV.Rel env ρ x y
  | .agg l, v => ∃ x, v = .agg x.toArray /\ SV.Rels env ρ l x
  | .tup l, v => ∃ x, v = .tuple x.toArray /\ SV.Rels env ρ l x
  | .top, v => True
  | .cst u, v => v = u
def SV.Rels (env : Env) (ρ : PMap) : List SV -> List Value -> Prop
  | [], vs => vs = []
  | x :: l, vs => ∃ v r, vs = v :: r /\ SV.Rel env ρ x v /\ SV.Rels env ρ l r
end
mutual
theorem SV.Rel.mono {env : Env} {ρ ρ' : PMap} (h : ρ.le ρ') : ∀ {x : SV} {v : Value}, x.Rel env ρ v -> x.Rel env ρ' v
  | .int .., _, r => r
  | .bool .., _, r => r
  | .str .., _, r => r
  | .flt .., _, r => r
  | .val .., _, r => r
  | .nilp, _, r => r
  | .ptr .., _, r => by simp only [SV.Rel] at r ⊢; obtain ⟨p, h1, h2⟩ := r; exact ⟨p, h _ _ h1, h2⟩
  | .anyp, _, r => r
  | .nilsl, _, r => r
  | .sl .., _, r => by simp only [SV.Rel] at r ⊢; obtain ⟨p, A, h1, h2⟩ := r; exact ⟨p, A, h _ _ h1, h2⟩
  | .dsl .., _, r => by simp only [SV.Rel] at r ⊢; exact DK.Rel.mono h.fz r
  | .dslx .., _, r => by simp only [SV.Rel] at r ⊢; exact ⟨DK.Rel.mono h.fz r.1, r.2⟩
  | .dptr .., _, r => by simp only [SV.Rel] at r ⊢; obtain ⟨b, o, h1, h2⟩ := r; exact ⟨b, o, h1, DKs.Rel.mono h.fz (fun j v hv => fzcell_mono h.fz hv) h2⟩
  | .apt .., _, r => by simp only [SV.Rel] at r ⊢; exact r.mono h.fz
  | .nilmap, _, r => r
  | .map .., _, r => by simp only [SV.Rel] at r ⊢; obtain ⟨p, h1, h2⟩ := r; exact ⟨p, h _ _ h1, h2⟩
  | .chan .., _, r => by simp only [SV.Rel] at r ⊢; obtain ⟨p, h1, h2⟩ := r; exact ⟨p, h _ _ h1, h2⟩
  | .nilch, _, r => r
  | .nilfn, _, r => r
  | .fn .., _, r => by simp only [SV.Rel] at r ⊢; obtain ⟨x, y, h1, h2, h3⟩ := r; exact ⟨x, y, h1, SV.Rels.mono h h2, SV.Rels.mono h h3⟩
  | .nilif, _, r => r
  | .ifc .., _, r => by simp only [SV.Rel] at r ⊢; obtain ⟨y, h1, h2⟩ := r; exact ⟨y, h1, SV.Rel.mono h h2⟩
  | .agg .., _, r => by simp only [SV.Rel] at r ⊢; obtain ⟨y, h1, h2⟩ := r; exact ⟨y, h1, SV.Rels.mono h h2⟩
  | .tup .., _, r => by simp only [SV.Rel] at r ⊢; obtain ⟨y, h1, h2⟩ := r; exact ⟨y, h1, SV.Rels.mono h h2⟩
  | .top, _, r => r
  | .cst _, _, r => r
theorem SV.Rels.mono {env : Env} {ρ ρ' : PMap} (h : ρ.le ρ') : ∀ {l : List SV} {vs : List Value}, SV.Rels env ρ l vs -> SV.Rels env ρ' l vs
  | [], _, r => r
  | x :: l, _, r => by simp only [SV.Rels] at r ⊢; obtain ⟨v, q, h1, h2, h3⟩ := r; exact ⟨v, q, h1, SV.Rel.mono h h2, SV.Rels.mono h h3⟩
end
theorem SV.Rels.length {env : Env} {ρ : PMap} : ∀ {l : List SV} {vs : List Value}, SV.Rels env ρ l vs -> vs.length = l.length
  | [], _, r => by simp only [SV.Rels] at r; subst r; rfl
  | x :: l, _, r => by simp only [SV.Rels] at r; obtain ⟨v, q, rfl, _, h⟩ := r; simp [SV.Rels.length h]
theorem SV.Rels.get {env : Env} {ρ : PMap} : ∀ {l : List SV} {vs : List Value} {i : Nat} {x : SV}, SV.Rels env ρ l vs -> l[i]? = some x -> ∃ v, vs[i]? = some v /\ x.Rel env ρ v
  | [], _, _, _, _, h => by simp at h
  | y :: l, _, i, x, r, h => by
    simp only [SV.Rels] at r; obtain ⟨v, q, rfl, hv, hq⟩ := r; cases i with
    | zero => simp at h; subst h; exact ⟨v, rfl, hv⟩
    | succ i => simp at h; obtain ⟨v', h1, h2⟩ := SV.Rels.get hq h; exact ⟨v', by simpa using h1, h2⟩
theorem SV.Rels.append {env : Env} {ρ : PMap} : ∀ {l m : List SV} {vs ws : List Value}, SV.Rels env ρ l vs -> SV.Rels env ρ m ws -> SV.Rels env ρ (l ++ m) (vs ++ ws)
  | [], _, _, _, r, s => by simp only [SV.Rels] at r; subst r; exact s
  | x :: l, _, _, _, r, s => by
    simp only [SV.Rels] at r; obtain ⟨v, q, rfl, hv, hq⟩ := r; exact ⟨v, _, rfl, hv, SV.Rels.append hq s⟩
theorem SV.Rels.take {env : Env} {ρ : PMap} : ∀ {l : List SV} {vs : List Value} (n : Nat), SV.Rels env ρ l vs -> SV.Rels env ρ (l.take n) (vs.take n)
  | [], _, n, r => by simp only [SV.Rels] at r; subst r; simp [SV.Rels]
  | x :: l, _, n, r => by
    simp only [SV.Rels] at r; obtain ⟨v, q, rfl, hv, hq⟩ := r; cases n with
    | zero => simp [SV.Rels]
    | succ n => simp only [List.take_succ_cons, SV.Rels]; exact ⟨v, _, rfl, hv, SV.Rels.take n hq⟩
theorem SV.Rels.drop {env : Env} {ρ : PMap} : ∀ {l : List SV} {vs : List Value} (n : Nat), SV.Rels env ρ l vs -> SV.Rels env ρ (l.drop n) (vs.drop n)
  | [], _, n, r => by simp only [SV.Rels] at r; subst r; simp [SV.Rels]
  | x :: l, _, n, r => by
    cases n with
    | zero => exact r
    | succ n =>
      simp only [SV.Rels] at r; obtain ⟨v, q, rfl, hv, hq⟩ := r; exact SV.Rels.drop n hq
theorem SV.Rels.set {env : Env} {ρ : PMap} : ∀ {l : List SV} {vs : List Value} (i : Nat) {x : SV} {v : Value}, SV.Rels env ρ l vs -> x.Rel env ρ v -> SV.Rels env ρ (l.set i x) (vs.set i v)
  | [], _, n, _, _, r, _ => by simp only [SV.Rels] at r; subst r; simp [SV.Rels]
  | y :: l, _, i, x, v, r, hx => by
    simp only [SV.Rels] at r; obtain ⟨u, q, rfl, hv, hq⟩ := r; cases i with
    | zero => exact ⟨v, q, rfl, hx, hq⟩
    | succ i => exact ⟨u, _, rfl, hv, SV.Rels.set i hq hx⟩
def dcellS : DK -> E -> SV
  | .int k, e => .int k e
  | .bool, e => .bool e
  | .str, e => .str e
  | .sl ks, e => .dsl ks e
  | .fp ks, e => .dptr ks e (.il 0) 0
  | .ifc t k, e => .ifc t (dcellS k e)
  | .nilm, _ => .nilmap
  | .ap T, e => .apt T e 0
inductive Col where
  | int (k : IntKind) (c : Nat)
  | bool (c : Nat)
  | str (c : Nat)
  | val (c : Nat)
  | dsl (ks : DKs) (c : Nat)
  | tc (k : DK) (e : E) (j : Nat)
  deriving Inhabited
def Col.at : Col -> E -> SV
  | .int k c, i => .int k (.fn c i)
  | .bool c, i => .bool (.fn c i)
  | .str c, i => .str (.fn c i)
  | .val c, i => .val c i
  | .dsl ks c, i => .dsl ks (.fn c i)
  | .tc k e j, i => dcellS k (.o2 (.cell j) e i)
theorem dcellS_rel {env : Env} {ρ : PMap} {k : DK} {x : E} {v : Value} : (dcellS k x).Rel env ρ v ↔ k.Rel ρ.fz (x.den env) v := by
  cases k with
  | fp ks => simp only [dcellS, SV.Rel, DK.Rel, E.den, Dv.I, Int.toNat_zero, Nat.add_zero]
  | ifc t k => simp only [dcellS, SV.Rel, DK.Rel, dcellS_rel (k := k)]
  | _ => simp only [dcellS, SV.Rel, DK.Rel]
termination_by structural k
inductive KK where
  | int (k : IntKind)
  | bool
  | str
  deriving Inhabited, Repr
def kkSame : KK -> KK -> Bool
  | .int .i8, .int .i8 | .int .i16, .int .i16 | .int .i32, .int .i32 | .int .i64, .int .i64 | .int .u8, .int .u8 | .int .u16, .int .u16 | .int .u32, .int .u32 | .int .u64, .int .u64 => true
  | .bool, .bool => true
  | .str, .str => true
  | _, _ => false
theorem kkSame_eq {a b : KK} (h : kkSame a b = true) : a = b := by
  cases a <;> cases b <;> first
    | rfl
    | (rename_i x y; cases x <;> cases y <;> first | rfl | (cases h; done))
    | (cases h; done)
    | (rename_i x; cases x <;> (cases h; done))
def KK.ok : KK -> Value -> Prop
  | .int k, v => ∃ n, v = .int k n
  | .bool, v => ∃ b, v = .bool b
  | .str, v => ∃ s, v = .string s
def KK.dv : KK -> Dv -> Value
  | .int k, d => .int k d.I
  | .bool, d => .bool d.B
  | .str, d => .string d.S
def KK.q : KK -> KQ
  | .int _ => .i
  | .bool => .b
  | .str => .s
def keyEq : Value -> Value -> Bool
  | .int _ a, .int _ b => a == b
  | .bool a, .bool b => a == b
  | .string a, .string b => a.toList == b.toList
  | _, _ => false
theorem keyEq_iff {kk : KK} {a b : Value} (ha : kk.ok a) (hb : kk.ok b) : keyEq a b = true ↔ a = b := by
  cases kk with
  | int k => obtain ⟨x, rfl⟩ := ha; obtain ⟨y, rfl⟩ := hb; simp [keyEq]
  | bool => obtain ⟨x, rfl⟩ := ha; obtain ⟨y, rfl⟩ := hb; simp [keyEq]
  | str =>
    obtain ⟨x, rfl⟩ := ha; obtain ⟨y, rfl⟩ := hb; constructor
    . intro h; have h : (x.toList == y.toList) = true := h; have h2 : x.toList = y.toList := by simpa using h
      have t : ∀ z : ByteArray, z.toList = z.data.toList := fun z => by
        have : z = ByteArray.mk z.data.toList.toArray := by cases z; simp
        rw [this, ByteArray.toList_mk]
      rw [t, t] at h2; have e : x = y := ByteArray.ext (Array.toList_inj.1 h2); rw [e]
    . intro h; injection h with h; subst h; simp [keyEq]
def cont : List (Value × Option Value) -> (Value -> Option Value) -> Value -> Option Value
  | [], r, k => r k
  | (k', v) :: l, r, k => cond (keyEq k' k) v (cont l r k)
def res (env : Env) (m : Nat) (i : Int) : Value -> Option Value :=
  match m with
  | 0 => fun _ => none
  | m => env.mp m i
mutual
def SV.fl (env : Env) : SV -> Option Value
  | .int k e => some (.int k (e.den env).I)
  | .bool e => some (.bool (e.den env).B)
  | .str e => some (.string (e.den env).S)
  | .val c i => some (env.val c (i.den env).I)
  | .nilp => some (.pointer none)
  | .nilsl => some (.slice none 0 0)
  | .nilif => some .nilIface
  | .agg l => (SV.fls env l).map fun vs => .agg vs.toArray
  | _ => none
def SV.fls (env : Env) : List SV -> Option (List Value)
  | [] => some []
  | x :: l =>
    match SV.fl env x, SV.fls env l with
    | some v, some vs => some (v :: vs)
    | _, _ => none
end
mutual
theorem SV.fl_ok {env : Env} {ρ : PMap} : ∀ {x : SV} {u v : Value}, SV.fl env x = some u -> x.Rel env ρ v -> v = u
  | .int .., _, _, h, r => by simp only [SV.fl, Option.some.injEq] at h; simp only [SV.Rel] at r; rw [r, h]
  | .bool .., _, _, h, r => by simp only [SV.fl, Option.some.injEq] at h; simp only [SV.Rel] at r; rw [r, h]
  | .str .., _, _, h, r => by simp only [SV.fl, Option.some.injEq] at h; simp only [SV.Rel] at r; rw [r, h]
  | .val .., _, _, h, r => by simp only [SV.fl, Option.some.injEq] at h; simp only [SV.Rel] at r; rw [r, h]
  | .nilp, _, _, h, r => by simp only [SV.fl, Option.some.injEq] at h; simp only [SV.Rel] at r; rw [r, h]
  | .nilsl, _, _, h, r => by simp only [SV.fl, Option.some.injEq] at h; simp only [SV.Rel] at r; rw [r, h]
  | .nilif, _, _, h, r => by simp only [SV.fl, Option.some.injEq] at h; simp only [SV.Rel] at r; rw [r, h]
  | .agg l, _, _, h, r => by
    simp only [SV.fl, Option.map_eq_some_iff] at h; obtain ⟨vs, h1, h2⟩ := h; simp only [SV.Rel] at r; obtain ⟨us, r1, r2⟩ := r; rw [r1, <- h2, SV.fls_ok h1 r2]
  | .flt .., _, _, h, _ => by simp [SV.fl] at h
  | .ptr .., _, _, h, _ => by simp [SV.fl] at h
  | .anyp, _, _, h, _ => by simp [SV.fl] at h
  | .sl .., _, _, h, _ => by simp [SV.fl] at h
  | .nilmap, _, _, h, _ => by simp [SV.fl] at h
  | .map .., _, _, h, _ => by simp [SV.fl] at h
  | .chan .., _, _, h, _ => by simp [SV.fl] at h
  | .nilch, _, _, h, _ => by simp [SV.fl] at h
  | .nilfn, _, _, h, _ => by simp [SV.fl] at h
  | .fn .., _, _, h, _ => by simp [SV.fl] at h
  | .ifc .., _, _, h, _ => by simp [SV.fl] at h
  | .tup .., _, _, h, _ => by simp [SV.fl] at h
  | .top, _, _, h, _ => by simp [SV.fl] at h
  | .cst .., _, _, h, _ => by simp [SV.fl] at h
theorem SV.fls_ok {env : Env} {ρ : PMap} : ∀ {l : List SV} {us vs : List Value}, SV.fls env l = some us -> SV.Rels env ρ l vs -> vs = us
  | [], us, vs, h, r => by simp only [SV.fls, Option.some.injEq] at h; simp only [SV.Rels] at r; rw [r, h]
  | x :: l, us, vs, h, r => by
    simp only [SV.fls] at h; split at h
    . rename_i u us' h1 h2; injection h with h; subst h; simp only [SV.Rels] at r; obtain ⟨v, q, rfl, r1, r2⟩ := r; rw [SV.fl_ok h1 r1, SV.fls_ok h2 r2]
    . cases h
end
inductive KV where
  | no
  | yes (x : SV)
  | may (b : E) (x : SV)
  deriving Inhabited
def flO (env : Env) : KV -> Option (Option Value)
  | .no => some none
  | .yes x => (SV.fl env x).map some
  | .may b x => (SV.fl env x).map fun v => cond (b.den env).B (some v) none
def flK (env : Env) : List (SV × KV) -> Option (List (Value × Option Value))
  | [] => some []
  | (k, x) :: l =>
    match SV.fl env k, flO env x, flK env l with
    | some a, some b, some r => some ((a, b) :: r)
    | _, _, _ => none
inductive Ob where
  | e (x : E)
  | mp (kk : KK) (m : Nat) (ix : E) (known : List (SV × KV)) (m' : Nat) (ix' : E) (known' : List (SV × KV))
  | t (a b : E)
  | p (a b : E)
def Ob.den (env : Env) : Ob -> Prop
  | .e x => (x.den env).B = true
  | .mp kk m ix known m' ix' known' => ∃ kv kv', flK env known = some kv /\ flK env known' = some kv' /\ ∀ k, kk.ok k -> cont kv (res env m (ix.den env).I) k = cont kv' (res env m' (ix'.den env).I) k
  | .t a b => (a.den env).T = (b.den env).T
  | .p a b => (a.den env).T.Perm (b.den env).T
inductive SObj where
  | cells (T : TypeId) (cs : List SV)
  | row (T : TypeId) (sz : Nat) (len : E) (cols : List Col) (tail : List (List SV))
  | inp (sz : Nat) (len : E) (cols : List Col)
  | map (m : Nat) (ix : E) (kk : KK) (sz : E) (known : List (SV × KV))
  | ar (T : TypeId) (ks : DKs) (e : E)
  | fwd (T : TypeId) (i : E)
  | dwd (ks : DKs) (e : E)
  | dmp (kk : KK) (ag : Bool) (ks : DKs) (e : E) (it : Option Nat)
  | itr (m : Nat) (kk : KK) (V : E)
  | bag (T : TypeId) (ks : DKs) (e : E)
  | chan (closed : E)
  | resv
  | gone
  deriving Inhabited
def arN (T : Nat) : Nat := 500000 + T
abbrev Heap := Nat -> Option SObj
def hget (h : Heap) (n : Nat) : Option SObj := h n
def hput (h : Heap) (n : Nat) (x : SObj) : Heap := fun k => if k = n then some x else h k
theorem hget_hput (h : Heap) (n : Nat) (x : SObj) (k : Nat) : hget (hput h n x) k = if k = n then some x else hget h k := rfl
abbrev CHeap := List (Nat × SObj)
def cget : CHeap -> Nat -> Option SObj
  | [], _ => none
  | (m, o) :: r, n => cond (Nat.beq m n) (some o) (cget r n)
def cput : CHeap -> Nat -> SObj -> CHeap
  | [], n, x => [(n, x)]
  | (m, o) :: r, n, x => cond (Nat.beq m n) ((n, x) :: r) (cond (Nat.blt m n) ((n, x) :: (m, o) :: r) ((m, o) :: cput r n x))
def cden (c : CHeap) : Heap := fun n => cget c n
theorem cden_cput (h : CHeap) (n : Nat) (x : SObj) : cden (cput h n x) = hput (cden h) n x := by
  funext k
  unfold cden hput
  induction h with
  | nil =>
    unfold cput cget cget
    by_cases e : k = n
    . subst e; simp
    . have : Nat.beq n k = false := by rw [Bool.eq_false_iff]; intro h; exact e (Nat.eq_of_beq_eq_true h).symm
      simp [this, e]
  | cons p r ih =>
    obtain ⟨m, o⟩ := p; unfold cput; cases h1 : Nat.beq m n with
    | true =>
      obtain rfl := Nat.eq_of_beq_eq_true h1; simp only [cond_true, cget]
      by_cases e : k = m
      . subst e; simp
      . have : Nat.beq m k = false := by rw [Bool.eq_false_iff]; intro h; exact e (Nat.eq_of_beq_eq_true h).symm
        simp [this, e]
    | false =>
      have hmn : m ≠ n := fun e => by subst e; simp at h1
      cases h2 : Nat.blt m n with
      | true =>
        simp only [cond_false, cond_true, cget]
        by_cases e : k = n
        . subst e; simp
        . have : Nat.beq n k = false := by rw [Bool.eq_false_iff]; intro h; exact e (Nat.eq_of_beq_eq_true h).symm
          simp [this, e]
      | false =>
        simp only [cond_false, cget, ih]; cases h3 : Nat.beq m k with
        | true =>
          obtain rfl := Nat.eq_of_beq_eq_true h3; simp [hmn]
        | false => simp
inductive Err where
  | undecided (e : E)
  | msg (s : String)
  deriving Repr
abbrev Ex (α : Type) := Except Err α
inductive Prog (α : Type) : Type where
  | ret (a : α)
  | fail (m : String)
  | get (n : Nat) (k : SObj -> Prog α)
  | put (n : Nat) (o : SObj) (k : Prog α)
  | vc (e : Ob) (k : Prog α)
  | dec (e : E) (k : Bool -> Prog α)
namespace Prog
def bind {α β : Type} : Prog α -> (α -> Prog β) -> Prog β
  | .ret a, f => f a
  | .fail m, _ => .fail m
  | .get n k, f => .get n fun o => (k o).bind f
  | .put n o k, f => .put n o (k.bind f)
  | .vc e k, f => .vc e (k.bind f)
  | .dec e k, f => .dec e fun b => (k b).bind f
instance : Monad Prog where
  pure := Prog.ret
  bind := Prog.bind
end Prog
structure Foot where
  rd : List Nat
  wr : List Nat
  deriving Repr
structure ROut (α : Type) where
  a : α
  h : CHeap
  vcs : List Ob
  ft : Foot
def decideO (fs : Facts) : Ob -> Option Bool
  | .e x => decideE fs x
  | .t a b => cond (a.same b) (some true) none
  | .p a b => cond (a.same b) (some true) none
  | _ => none
theorem decideO_ok {env : Env} {fs : Facts} (hf : fs.Hold env) {o : Ob} (h : decideO fs o = some true) : o.den env := by
  cases o with
  | e x => exact decideE_ok hf h
  | mp => cases h
  | t a b =>
    simp only [decideO] at h; cases hs : a.same b with
    | true => show (a.den env).T = (b.den env).T; rw [E.same_eq hs]
    | false => rw [hs] at h; cases h
  | p a b =>
    simp only [decideO] at h; cases hs : a.same b with
    | true => show (a.den env).T.Perm (b.den env).T; rw [E.same_eq hs]
    | false => rw [hs] at h; cases h
def Prog.run {α : Type} (fs : Facts) : Prog α -> CHeap -> List Ob -> Foot -> Ex (ROut α)
  | .ret a, h, vcs, ft => .ok ⟨a, h, vcs, ft⟩
  | .fail m, _, _, _ => .error (.msg m)
  | .get n k, h, vcs, ft =>
    match cget h n with
    | some o => (k o).run fs h vcs ⟨n :: ft.rd, ft.wr⟩
    | none => .error (.msg "no such name")
  | .put n o k, h, vcs, ft => k.run fs (cput h n o) vcs ⟨ft.rd, n :: ft.wr⟩
  | .vc e k, h, vcs, ft =>
    match decideO fs e with
    | some true => k.run fs h vcs ft
    | some false => .error (.msg "a condition that is false")
    | none => k.run fs h (e :: vcs) ft
  | .dec e k, h, vcs, ft =>
    match decideE fs e with
    | some b => (k b).run fs h vcs ft
    | none => .error (.undecided e)
def Prog.Ev {α : Type} (env : Env) : Prog α -> Heap -> α -> Heap -> Foot -> Foot -> Prop
  | .ret a, h, b, h', ft, ft' => a = b /\ h = h' /\ ft = ft'
  | .fail _, _, _, _, _, _ => False
  | .get n k, h, b, h', ft, ft' => ∃ o, hget h n = some o /\ (k o).Ev env h b h' ⟨n :: ft.rd, ft.wr⟩ ft'
  | .put n o k, h, b, h', ft, ft' => k.Ev env (hput h n o) b h' ⟨ft.rd, n :: ft.wr⟩ ft'
  | .vc e k, h, b, h', ft, ft' => e.den env /\ k.Ev env h b h' ft ft'
  | .dec e k, h, b, h', ft, ft' => (k (e.den env).B).Ev env h b h' ft ft'
theorem Prog.Ev.local {α : Type} {env : Env} : ∀ {p : Prog α} {h : Heap} {a : α} {h' : Heap} {ft ft' : Foot}, p.Ev env h a h' ft ft' ->
    ∃ R W, ft' = ⟨R ++ ft.rd, W ++ ft.wr⟩ /\ (∀ n, n ∉ W -> h' n = h n) /\
      ∀ (t : Heap) (gt : Foot), (∀ n ∈ R, t n = h n) -> ∃ t', p.Ev env t a t' gt ⟨R ++ gt.rd, W ++ gt.wr⟩ /\ ∀ n, t' n = if n ∈ W then h' n else t n
  | .ret a, h, b, h', ft, ft', ⟨h1, h2, h3⟩ => by
    subst h1; subst h2; subst h3; exact ⟨[], [], rfl, fun n _ => rfl, fun t gt _ => ⟨t, ⟨rfl, rfl, rfl⟩, fun n => by simp⟩⟩
  | .fail _, _, _, _, _, _, e => e.elim
  | .get n k, h, b, h', ft, ft', ⟨o, h1, h2⟩ => by
    obtain ⟨R, W, e, hw, hl⟩ := Prog.Ev.local h2; refine ⟨R ++ [n], W, by rw [e]; simp, hw, fun t gt ht => ?_⟩
    obtain ⟨t', g1, g2⟩ := hl t ⟨n :: gt.rd, gt.wr⟩ (fun m hm => ht m (List.mem_append_left _ hm)); refine ⟨t', ⟨o, ?_, by simpa using g1⟩, g2⟩
    show t n = some o; rw [ht n (by simp)]
    exact h1
  | .put n o k, h, b, h', ft, ft', h2 => by
    obtain ⟨R, W, e, hw, hl⟩ := Prog.Ev.local (p := k) h2; refine ⟨R, W ++ [n], by rw [e]; simp, fun m hm => ?_, fun t gt ht => ?_⟩
    . simp only [List.mem_append, List.mem_singleton, not_or] at hm; rw [hw m hm.1]; show (if m = n then some o else h m) = h m
      rw [if_neg hm.2]
    . obtain ⟨t', g1, g2⟩ := hl (hput t n o) ⟨gt.rd, n :: gt.wr⟩ (fun m hm => by
        show (if m = n then some o else t m) = (if m = n then some o else h m)
        rw [ht m hm])
      refine ⟨t', by show Prog.Ev env k (hput t n o) b t' ⟨gt.rd, n :: gt.wr⟩ _; simpa using g1, fun m => ?_⟩
      rw [g2 m]
      by_cases hmW : m ∈ W
      . simp [hmW]
      . by_cases hmn : m = n
        . subst hmn; rw [if_neg hmW, if_pos (by simp), hw m hmW]
          simp [hput]
        . rw [if_neg hmW, if_neg (by simp [hmW, hmn])]
          show (if m = n then some o else t m) = t m
          rw [if_neg hmn]
  | .vc e k, h, b, h', ft, ft', ⟨h1, h2⟩ => by
    obtain ⟨R, W, e, hw, hl⟩ := Prog.Ev.local h2; refine ⟨R, W, e, hw, fun t gt ht => ?_⟩; obtain ⟨t', g1, g2⟩ := hl t gt ht; exact ⟨t', ⟨h1, g1⟩, g2⟩
  | .dec e k, h, b, h', ft, ft', h2 => by
    obtain ⟨R, W, e, hw, hl⟩ := Prog.Ev.local (p := k _) h2; refine ⟨R, W, e, hw, fun t gt ht => ?_⟩; obtain ⟨t', g1, g2⟩ := hl t gt ht; exact ⟨t', g1, g2⟩
def sundef : SV := .tup []
mutual
def ofVal : Value -> Option SV
  | .bool b => some (.bool (.bl b))
  | .int k n => some (.int k (.il n))
  | .string s => some (.str (.sl s.data.toList))
  | .float .f64 b => some (.flt (.l b))
  | .pointer none => some .nilp
  | .slice none 0 0 => some .nilsl
  | .map none => some .nilmap
  | .chan none => some .nilch
  | .nilFunc => some .nilfn
  | .nilIface => some .nilif
  | .func f ⟨[]⟩ ⟨[]⟩ => some (.fn f [] [])
  | .agg ⟨cs⟩ => (ofVals cs).map .agg
  | .tuple ⟨cs⟩ => (ofVals cs).map .tup
  | _ => none
def ofVals : List Value -> Option (List SV)
  | [] => some []
  | v :: r =>
    match ofVal v, ofVals r with
    | some x, some l => some (x :: l)
    | _, _ => none
end
def SV.cells : SV -> List SV
  | .agg l => l
  | x => [x]
def SV.one : SV -> Bool
  | .agg _ => false
  | .tup _ => false
  | .val .. => false
  | .top => false
  | .cst _ => false
  | _ => true
def SV.shut : SV -> Bool
  | .val .. => false
  | .top => false
  | .cst _ => false
  | _ => true
def setAt (l : List SV) (j : Nat) (vs : List SV) : List SV := l.take j ++ vs ++ l.drop (j + vs.length)
def ofOpt {α : Type} (o : Option α) (m : String) : Prog α :=
  match o with
  | some a => .ret a
  | none => .fail m
def getN (n : Nat) : Prog SObj := .get n .ret
def putN (n : Nat) (o : SObj) : Prog Unit := .put n o (.ret ())
def vcE (e : E) : Prog Unit := .vc (.e e) (.ret ())
def vcO (o : Ob) : Prog Unit := .vc o (.ret ())
def decE (e : E) : Prog Bool := .dec e .ret
def must (b : Bool) (m : String) : Prog Unit := cond b (.ret ()) (.fail m)
def und (P : Program) (t : TypeId) : Prog TypeDesc := ofOpt (P.underlying t) "no type"
def inf (P : Program) (t : TypeId) : Prog TypeInfo := ofOpt (P.info? t) "no type"
def isAggD : TypeDesc -> Bool
  | .struct _ => true
  | .array _ _ => true
  | _ => false
def zeroS (P : Program) (t : TypeId) : Prog SV := do
  let i <- inf P t
  let z <- ofOpt i.zero "no zero"
  ofOpt (ofVal z) "a zero value that is not taken"
def takeN (l : List SV) (j n : Nat) : Prog (List SV) := do
  let r := (l.drop j).take n
  must (Nat.beq r.length n) "cells out of range"
  return r
def leE (a b : E) : E := mk2 .le a b
def ltE (a b : E) : E := mk2 .lt a b
def leS (a b : E) : E := cond (a.same b) (.bl true) (leE a b)
def inB (i len : E) : Prog Unit := do vcE (leE (.il 0) i); vcE (ltE i len)
def nat? : E -> Option Nat
  | .il (.ofNat n) => some n
  | _ => none
def addI (a b : E) : E :=
  match a, b with
  | .il 0, b => b
  | a, .il 0 => a
  | a, b => mk2 .add a b
def subI (a b : E) : E :=
  match b with
  | .il 0 => a
  | b => mk2 .sub a b
theorem addI_I (env : Env) (a b : E) : ((addI a b).den env).I = (a.den env).I + (b.den env).I := by
  unfold addI; split
  . show _ = (0 : Int) + _; omega
  . show _ = _ + (0 : Int); omega
  . rw [mk2_den]; rfl
theorem subI_I (env : Env) (a b : E) : ((subI a b).den env).I = (a.den env).I - (b.den env).I := by
  unfold subI; split
  . show _ = _ - (0 : Int); omega
  . rw [mk2_den]; rfl
def pickN (i : E) : Nat -> Nat -> Prog Nat
  | _, 0 => .fail "an index that is none of those"
  | k, 1 => do
    vcE (mk2 .ieq i (.il (k : Nat)))
    return k
  | k, m + 2 => do
    let t <- decE (mk2 .ieq i (.il (k : Nat)))
    match t with
    | true => return k
    | false => pickN i (k + 1) (m + 1)
def idxN (i : E) (n : Nat) : Prog Nat :=
  match nat? i with
  | some b => .ret b
  | none => pickN i 0 n
def cellsAt (o : SObj) (off : Off) (n : Nat) : Prog (List SV) :=
  match o, off with
  | .cells _ cs, .c j => takeN cs j n
  | .row _ sz len cols tail, .el i sz' j => do
    must (Nat.beq sz sz') "another size"
    match tail with
    | [] => do
      inB i len
      takeN (cols.map (·.at i)) j n
    | _ => do
      let a <- ofOpt (nat? len) "a row with news, of no known length"
      let b <- idxN i (a + tail.length)
      match Nat.blt b a with
      | true => takeN (cols.map (·.at i)) j n
      | false => do
        let x <- ofOpt tail[b - a]? "behind the row"
        takeN x j n
  | .inp sz len cols, .el i sz' j => do
    must (Nat.beq sz sz') "another size"
    inB i len
    takeN (cols.map (·.at i)) j n
  | _, _ => .fail "no cells there"
def dcells (ks : DKs) (e i : E) : Nat -> Nat -> Option (List SV)
  | _, 0 => some []
  | j, n + 1 =>
    match ks.get j, dcells ks e i (j + 1) n with
    | some k, some l => some (dcellS k (mk2 (.cell j) e i) :: l)
    | _, _ => none
def loadS (P : Program) (t : TypeId) (x : SV) : Prog SV :=
  match x with
  | .ptr n off => do
    let d <- und P t
    let i <- inf P t
    let o <- getN n
    match isAggD d with
    | true => do
      let l <- cellsAt o off i.size
      return .agg l
    | false => do
      let l <- cellsAt o off 1
      match l with
      | [v] => return v
      | _ => .fail "one cell wanted"
  | .dptr ks e i j => do
    let d <- und P t
    let n <- inf P t
    match isAggD d with
    | true => do
      let l <- ofOpt (dcells ks e i j n.size) "no such cells"
      return .agg l
    | false => do
      let l <- ofOpt (dcells ks e i j 1) "no such cells"
      match l with
      | [v] => return v
      | _ => .fail "one cell wanted"
  | _ => .fail "load: no pointer"
def setCells (o : SObj) (off : Off) (vs : List SV) : Prog SObj :=
  match o, off with
  | .cells T cs, .c j => do
    must (Nat.ble (j + vs.length) cs.length) "store: out of range"
    return .cells T (setAt cs j vs)
  | .row T sz len cols tail, .el i sz' j => do
    must (Nat.beq sz sz') "another size"
    let a <- ofOpt (nat? len) "store: a row of no known length"
    let b <- ofOpt (nat? i) "store: an index that is not known"
    must (Nat.ble a b) "store: into a given row"
    let x <- ofOpt tail[b - a]? "store: behind the row"
    must (Nat.ble (j + vs.length) x.length) "store: out of range"
    return .row T sz len cols (tail.set (b - a) (setAt x j vs))
  | _, _ => .fail "store: no cells there"
def storeS (P : Program) (t : TypeId) (x v : SV) : Prog Unit :=
  match x with
  | .ptr n off => do
    let i <- inf P t
    must (Nat.beq v.cells.length i.size) "store: size"
    must (v.cells.all SV.one) "store: a cell that is none"
    let o <- getN n
    let o' <- setCells o off v.cells
    putN n o'
  | _ => .fail "store: no pointer"
def newS (nm : Nat) (o : SObj) : Prog Unit := do
  let r <- getN nm
  match r with
  | .resv => putN nm o
  | _ => .fail "the name is taken"
def boxS (P : Program) (nm : Nat) (t : TypeId) (v : SV) : Prog SV := do
  must v.shut "box: an open value"
  newS nm (.cells t v.cells)
  return .ptr nm (.c 0)
def fillS : List (Nat × SV) -> (Nat -> Option (Nat × Nat)) -> List SV -> Option (List SV)
  | [], _, cs => some cs
  | (i, v) :: r, place, cs =>
    match place i with
    | none => none
    | some (off, size) => cond (v.shut && Nat.beq v.cells.length size && Nat.ble (off + v.cells.length) cs.length) (fillS r place (setAt cs off v.cells)) none
def sizeT (P : Program) (t : TypeId) : Option Nat := (P.info? t).map (·.size)
def fieldPlaces (P : Program) : List Field -> Option (List (Nat × Nat))
  | [] => some []
  | f :: r =>
    match sizeT P f.type, fieldPlaces P r with
    | some s, some l => some ((f.offset, s) :: l)
    | _, _ => none
def buildS (P : Program) (t : TypeId) (parts : List (Nat × SV)) : Prog SV := do
  let z <- zeroS P t
  let d <- und P t
  match d with
  | .struct fields => do
    let pl <- ofOpt (fieldPlaces P fields.toList) "build: a field's type"
    let cs <- ofOpt (fillS parts (fun i => pl[i]?) z.cells) "build: parts"
    return .agg cs
  | .array _ elem => do
    let s <- ofOpt (sizeT P elem) "build: an element's type"
    let cs <- ofOpt (fillS parts (fun i => some (i * s, s)) z.cells) "build: parts"
    return .agg cs
  | _ => .fail "build: struct or array"
def repl {α : Type} (n : Nat) (a : α) : List α :=
  match n with
  | 0 => []
  | n + 1 => a :: repl n a
def fillE : List (Nat × SV) -> Nat -> List (List SV) -> Option (List (List SV))
  | [], _, l => some l
  | (i, v) :: r, sz, l => cond (v.shut && Nat.beq v.cells.length sz && Nat.blt i l.length) (fillE r sz (l.set i v.cells)) none
def buildSliceS (P : Program) (nm : Nat) (t : TypeId) (len : Nat) (parts : List (Nat × SV)) : Prog SV := do
  let d <- und P t
  match d with
  | .slice elem => do
    let sz <- ofOpt (sizeT P elem) "buildSlice: an element's type"
    must (Nat.blt 0 sz) "buildSlice: elements without cells"
    must (Nat.ble (len * sz) 16777216) "buildSlice: too long"
    let z <- zeroS P elem
    must (Nat.beq z.cells.length sz) "buildSlice: the zero's size"
    let l <- ofOpt (fillE parts sz (repl len z.cells)) "buildSlice: parts"
    newS nm (.row elem sz (.il 0) [] l)
    return .sl nm sz (.il 0) (.il (len : Nat))
  | _ => .fail "buildSlice: slice"
def minK : IntKind -> Int
  | .i8 => -128 | .i16 => -32768 | .i32 => -2147483648 | .i64 => -9223372036854775808 | _ => 0
def maxK : IntKind -> Int
  | .i8 => 127 | .i16 => 32767 | .i32 => 2147483647 | .i64 => 9223372036854775807
  | .u8 => 255 | .u16 => 65535 | .u32 => 4294967295 | .u64 => 18446744073709551615
def kSame : IntKind -> IntKind -> Bool
  | .i8, .i8 | .i16, .i16 | .i32, .i32 | .i64, .i64 | .u8, .u8 | .u16, .u16 | .u32, .u32 | .u64, .u64 => true
  | _, _ => false
def arith (k : IntKind) (e : E) : Prog SV :=
  match e with
  | .il z => .ret (.int k (.il (k.wrap z)))
  | e => do
    vcE (leE (.il (minK k)) e)
    vcE (leE e (.il (maxK k)))
    return .int k e
def notE (e : E) : E := mk1 .not e
def beqE (a b : E) : E :=
  match a, b with
  | .bl true, b => b
  | a, .bl true => a
  | .bl false, b => notE b
  | a, .bl false => notE a
  | a, b => mk2 .beq a b
def partS (P : Program) (t : TypeId) (cs : List SV) (off : Nat) : Prog SV := do
  let d <- und P t
  let i <- inf P t
  match isAggD d with
  | true => do
    let l <- takeN cs off i.size
    return .agg l
  | false => ofOpt cs[off]? "no such cell"
def andE (a b : E) : E :=
  match a, b with
  | .bl true, b => b
  | a, .bl true => a
  | a, b => mk2 .and a b
def eqFs (P : Program) (rc : TypeId -> SV -> SV -> Prog E) (xs ys : List SV) : List Field -> Prog E
  | [] => .ret (.bl true)
  | f :: r => do
    must (f.name != "_") "==: a blank field"
    let a <- partS P f.type xs f.offset
    let b <- partS P f.type ys f.offset
    let e <- rc f.type a b
    let e2 <- eqFs P rc xs ys r
    return andE e e2
def eqS (P : Program) : Nat -> TypeId -> SV -> SV -> Prog E
  | 0, _, _, _ => .fail "==: too deep"
  | d + 1, t, x, y => do
    let u <- und P t
    match u, x, y with
    | .bool, .bool a, .bool b => return beqE a b
    | .int _, .int k a, .int k' b => do must (kSame k k') "==: kinds"; return mk2 .ieq a b
    | .string, .str a, .str b => return mk2 .seq a b
    | .pointer _, .nilp, .nilp => return .bl true
    | .pointer _, .nilp, .ptr .. => return .bl false
    | .pointer _, .ptr .., .nilp => return .bl false
    | .pointer _, .nilp, .dptr .. => return .bl false
    | .pointer _, .dptr .., .nilp => return .bl false
    | .pointer _, .nilp, .anyp => return .bl false
    | .pointer _, .anyp, .nilp => return .bl false
    | .pointer _, .nilp, .apt _ i _ => return ltE i (.il 0)
    | .pointer _, .apt _ i _, .nilp => return ltE i (.il 0)
    | .interface _, .nilif, .nilif => return .bl true
    | .interface _, .nilif, .ifc .. => return .bl false
    | .interface _, .ifc .., .nilif => return .bl false
    | .slice _, .nilsl, .nilsl => return .bl true
    | .map .., .nilmap, .nilmap => return .bl true
    | .map .., .nilmap, .map _ => return .bl false
    | .map .., .map _, .nilmap => return .bl false
    | .func .., .nilfn, .nilfn => return .bl true
    | .func .., .nilfn, .fn .. => return .bl false
    | .func .., .fn .., .nilfn => return .bl false
    | .struct fs, .agg xs, .agg ys => do
      must (!(P.stoodInHeld t)) "==: a type that is stood in for"
      eqFs P (eqS P d) xs ys fs.toList
    | _, _, _ => .fail "==: not taken"
def cstE : Operand -> Bool
  | .const _ => true
  | _ => false
def SV.isNilif : SV -> Bool
  | .nilif => true
  | _ => false
def SV.isAggS : SV -> Bool
  | .agg _ => true
  | _ => false
def guardS (P : Program) (op : BinOp) (t : TypeId) (x y : Operand) (a b : SV) : Prog Unit :=
  match op with
  | .eql | .neq => do
    must (a.shut && b.shut) "==: open"
    must (!(a.isAggS && b.isAggS) || !(P.eqGuardType P.depth t)) "==: structs with interfaces"
    must (cstE x || cstE y || !(a.isNilif && b.isNilif)) "==: two nil interfaces"
  | _ => .ret ()
def eqHead : SV -> Bool
  | .bool _ | .nilp | .ptr .. | .dptr .. | .apt .. | .anyp | .nilif | .ifc .. | .nilsl | .sl .. | .nilmap | .map _ | .nilfn | .fn .. | .agg _ => true
  | _ => false
def binS (P : Program) (op : BinOp) (t : TypeId) (x y : SV) : Prog SV :=
  match op, x, y with
  | .shl, _, _ => .fail "shift"
  | .shr, .int k a, .int _ (.il (.ofNat n)) => do must (Nat.ble n 7) "shift"; vcE (leE (.il 0) a); return .int k (mk2 .quo a (.il ((2 ^ n : Nat) : Int)))
  | .add, .int k a, .int k' b => do must (kSame k k') "kinds"; arith k (mk2 .add a b)
  | .sub, .int k a, .int k' b => do must (kSame k k') "kinds"; arith k (mk2 .sub a b)
  | .mul, .int k a, .int k' b => do must (kSame k k') "kinds"; arith k (mk2 .mul a b)
  | .quo, .int k a, .int k' b => do must (kSame k k') "kinds"; vcE (notE (mk2 .ieq b (.il 0))); arith k (mk2 .quo a b)
  | .rem, .int k a, .int k' b => do must (kSame k k') "kinds"; vcE (notE (mk2 .ieq b (.il 0))); return .int k (mk2 .rem a b)
  | .eql, .int k a, .int k' b => do must (kSame k k') "kinds"; return .bool (mk2 .ieq a b)
  | .neq, .int k a, .int k' b => do must (kSame k k') "kinds"; return .bool (notE (mk2 .ieq a b))
  | .lss, .int k a, .int k' b => do must (kSame k k') "kinds"; return .bool (mk2 .lt a b)
  | .leq, .int k a, .int k' b => do must (kSame k k') "kinds"; return .bool (mk2 .le a b)
  | .gtr, .int k a, .int k' b => do must (kSame k k') "kinds"; return .bool (mk2 .lt b a)
  | .geq, .int k a, .int k' b => do must (kSame k k') "kinds"; return .bool (mk2 .le b a)
  | .mul, .flt (.l c), .flt (.ofI e) => do vcE (.o1 (.fok c) e); return .flt (.mul (.l c) (.ofI e))
  | .add, .str a, .str b => do vcE (leE (mk2 .add (mk1 .size a) (mk1 .size b)) (.il 9223372036854775807)); return .str (mk2 .cat a b)
  | .eql, .str a, .str b => return .bool (mk2 .seq a b)
  | .neq, .str a, .str b => return .bool (notE (mk2 .seq a b))
  | .lss, .str a, .str b => return .bool (mk2 .slt a b)
  | .gtr, .str a, .str b => return .bool (mk2 .slt b a)
  | .eql, .int .., _ => .fail "=="
  | .neq, .int .., _ => .fail "=="
  | .eql, x, y => do must (eqHead x) "=="; let e <- eqS P 10000 t x y; return .bool e
  | .neq, x, y => do must (eqHead x) "=="; let e <- eqS P 10000 t x y; return .bool (notE e)
  | .geq, .str a, .str b => return .bool (notE (mk2 .slt a b))
  | .leq, .str a, .str b => return .bool (notE (mk2 .slt b a))
  | _, _, _ => .fail "an operator that is not taken"
def unS (op : UnOp) (x : SV) : Prog SV :=
  match op, x with
  | .neg, .int k e => arith k (mk2 .sub (.il 0) e)
  | .not, .bool e => return .bool (notE e)
  | _, _ => .fail "an operator that is not taken"
def convS (P : Program) (src dst : TypeId) (x : SV) : Prog SV := do
  let s <- und P src
  let d <- und P dst
  match s, d, x with
  | _, .int k, .int _ e => arith k e
  | _, .float .f64, .int _ e => return .flt (.ofI e)
  | _, .int .i64, .flt (.mul (.l c) (.ofI e)) => do vcE (.o1 (.fok c) e); return .int .i64 (.o1 (.fin c) e)
  | _, .string, .str _ => return x
  | .slice e, .string, .sl n _ (.il 0) (.il 1) => do
    let u <- und P e
    match u with
    | .int .u8 => do
      let o <- getN n
      match o with
      | .row _ 1 (.il 0) [] [[.int .u8 c]] => return .str (.o1 .chr c)
      | _ => .fail "a conversion that is not taken"
    | _ => .fail "a conversion that is not taken"
  | _, _, _ => .fail "a conversion that is not taken"
def fieldS (P : Program) (t : TypeId) (x : SV) (f : Nat) : Prog SV := do
  let u <- und P t
  match u with
  | .struct fields => do
    let fd <- ofOpt fields[f]? "no such field"
    let sz <- ofOpt (sizeT P fd.type) "a field's type"
    match x with
    | .ptr n (.c j) =>
      match sz with
      | 0 => do
        let o <- getN n
        match o with
        | .cells T cs => do
          must ((byteOfCell P P.depth T (j % P.cellsOf T)).isSome) "a field without cells"
          must (Nat.blt 0 (P.cellsOf T)) "a field without cells"
          must ((byteOfCell P P.depth T ((j + fd.offset) % P.cellsOf T)).isSome) "a field without cells"
          return .anyp
        | _ => .fail "a field without cells"
      | _ + 1 => return .ptr n (.c (j + fd.offset))
    | .ptr n (.el i s j) =>
      match sz with
      | 0 => .fail "a field without cells"
      | _ + 1 => return .ptr n (.el i s (j + fd.offset))
    | .dptr ks e i j =>
      match sz with
      | 0 => .fail "a field without cells"
      | _ + 1 => return .dptr ks e i (j + fd.offset)
    | _ => .fail "fieldAddr: no pointer"
  | _ => .fail "fieldAddr: struct"
def fieldV (P : Program) (t : TypeId) (x : SV) (f : Nat) : Prog SV := do
  let u <- und P t
  match u, x with
  | .struct fields, .agg cs => do
    let fd <- ofOpt fields[f]? "no such field"
    let d <- und P fd.type
    let i <- inf P fd.type
    match isAggD d with
    | true => do
      let l <- takeN cs fd.offset i.size
      return .agg l
    | false => ofOpt cs[fd.offset]? "no such cell"
  | _, _ => .fail "field: struct"
def indexS (P : Program) (t : TypeId) (x ix : SV) : Prog SV := do
  let u <- und P t
  match u, x, ix with
  | .slice elem, .sl n sz lo len, .int _ i => do
    let s <- ofOpt (sizeT P elem) "an element's type"
    must (Nat.beq s sz) "another size"
    inB i len
    return .ptr n (.el (addI lo i) sz 0)
  | .slice elem, .dsl ks e, .int _ i => do
    let s <- ofOpt (sizeT P elem) "an element's type"
    must (Nat.beq s ks.len) "another size"
    inB i (mk1 .tlen e)
    return .dptr ks e i 0
  | .array alen elem, .ptr n (.c j), .int _ i => do
    let s <- ofOpt (sizeT P elem) "an element's type"
    let k <- ofOpt (nat? i) "an array's index that is not known"
    must (Nat.blt k alen) "an array's index out of range"
    return .ptr n (.c (j + k * s))
  | _, _, _ => .fail "indexAddr: not taken"
def indexV (P : Program) (t : TypeId) (x ix : SV) : Prog SV := do
  let u <- und P t
  match u, x, ix with
  | .string, .str s, .int _ i => do
    inB i (mk1 .size s)
    return .int .u8 (.o2 .byte s i)
  | _, _, _ => .fail "index: not taken"
def boundS (dflt : E) : Option SV -> Prog E
  | none => .ret dflt
  | some (.int _ e) => .ret e
  | _ => .fail "slice: bound"
def isZ : E -> Bool
  | .il 0 => true
  | _ => false
def subT (e l h : E) : E := cond (isZ l) (cond (h.same (mk1 .tlen e)) e (.o2 .ttake e h)) (.o2 .tdrop (cond (h.same (mk1 .tlen e)) e (.o2 .ttake e h)) l)
theorem subT_T {env : Env} (e l h : E) : ((subT e l h).den env).T = ((e.den env).T.take (h.den env).I.toNat).drop (l.den env).I.toNat := by
  have h1 : ((cond (h.same (mk1 .tlen e)) e (E.o2 .ttake e h)).den env).T = (e.den env).T.take (h.den env).I.toNat := by
    cases hs : h.same (mk1 .tlen e) with
    | true =>
      have : (h.den env).I = (e.den env).T.length := by rw [E.same_eq hs, mk1_den]; rfl
      rw [this, Int.toNat_natCast, List.take_length]; rfl
    | false => rfl
  unfold subT; cases hz : isZ l with
  | true =>
    have : (l.den env).I = 0 := by
      unfold isZ at hz; split at hz
      . rfl
      . cases hz
    rw [this]; exact h1
  | false =>
    show ((cond (h.same (mk1 .tlen e)) e (E.o2 .ttake e h)).den env).T.drop _ = _; rw [h1]
def sliceS (P : Program) (t : TypeId) (x : SV) (lo hi : Option SV) : Prog SV := do
  let u <- und P t
  let l <- boundS (.il 0) lo
  match u, x with
  | .string, .str s => do
    let h <- boundS (mk1 .size s) hi
    vcE (leE (.il 0) l); vcE (leE l h); vcE (leE h (mk1 .size s))
    return .str (.ext s l h)
  | .slice elem, .sl n sz lo0 len => do
    let s <- ofOpt (sizeT P elem) "an element's type"
    must (Nat.beq s sz) "another size"
    let h <- boundS len hi
    vcE (leE (.il 0) l); vcE (leE l h); vcE (leE h len)
    return .sl n sz (addI lo0 l) (subI h l)
  | .slice elem, .dsl ks e => do
    let s <- ofOpt (sizeT P elem) "an element's type"
    must (Nat.beq s ks.len) "another size"
    let h <- boundS (mk1 .tlen e) hi
    vcE (leE (.il 0) l); vcE (leE l h); vcE (leE h (mk1 .tlen e))
    return .dsl ks (subT e l h)
  | _, _ => .fail "slice: not taken"
def ifaceS (P : Program) (t : TypeId) (x : SV) : Prog SV := do
  let u <- und P t
  match u with
  | .interface _ => .fail "makeInterface: concrete type"
  | _ => return .ifc t x
def missL (want : Array (String × TypeId)) (got : Array Method) : List String := (want.toList.filter fun (name, sig) => !got.any fun m => m.name == name && m.sig == sig).map (·.1)
def assertS (P : Program) (x : SV) (asserted : TypeId) (commaOk : Bool) : Prog SV := do
  let u <- und P asserted
  let no : Prog SV := cond commaOk (do let z <- zeroS P asserted; return .tup [z, .bool (.bl false)]) (.fail "a type assertion that fails")
  let yes (v : SV) : Prog SV := cond commaOk (.ret (.tup [v, .bool (.bl true)])) (.ret v)
  match u, x with
  | .interface _, .nilif => no
  | .interface want, .ifc t v => do
    let i <- inf P t
    cond (missL want i.methods).isEmpty (yes x) no
  | _, .nilif => no
  | _, .ifc t v => cond (Nat.beq t asserted) (yes v) no
  | _, _ => .fail "type assertion: not taken"
inductive SOut where
  | val (v : SV)
  | skip
  | call (f : FuncId) (args : List SV)
  | defer (fn : Fn) (cap args : List SV)
  deriving Inhabited
def callF (P : Program) (f : FuncId) (args : List SV) : Prog SOut := do
  let fn <- ofOpt P.funcs[f]? "no such function"
  must fn.body.isSome "a function without a body"
  return .call f args
def callM (P : Program) (recv : SV) (name : String) (args : List SV) : Prog SOut :=
  match recv with
  | .ifc t v => do
    let i <- inf P t
    let m <- ofOpt (i.methods.find? (·.name == name)) "no such method"
    must m.path.isEmpty "a method of an embedded field"
    let u <- und P t
    match m.func with
    | some (f, ptr) =>
      match u, ptr with
      | .pointer _, true => callF P f (v :: args)
      | .pointer _, false => .fail "a method of a value, by a pointer"
      | _, true => .fail "a pointer's method, of a value"
      | _, false => callF P f (v :: args)
    | none => .fail "an embedded interface's method"
  | _ => .fail "invoke: not taken"
def lenS (P : Program) (t : TypeId) (x : SV) : Prog SV := do
  let u <- und P t
  match u, x with
  | .string, .str s => return .int .i64 (mk1 .size s)
  | .array n _, _ => return .int .i64 (.il (n : Nat))
  | .slice _, .nilsl => return .int .i64 (.il 0)
  | .slice _, .sl n sz lo len => do vcE (leE (.il 0) len); return .int .i64 len
  | .map .., .nilmap => return .int .i64 (.il 0)
  | .map .., .map n => do
    let o <- getN n
    match o with
    | .map _ _ _ sz _ => return .int .i64 sz
    | _ => .fail "len: no map"
  | ty, .dsl _ e =>
    match ty with
    | .slice _ => return .int .i64 (mk1 .tlen e)
    | _ => .fail "len: not taken"
  | _, _ => .fail "len: not taken"
def rowE (a i : E) : E :=
  match i with
  | .il 0 => a
  | i => .o2 .ttake (.o2 .tdrop a i) (.il 1)
def celC : DK -> SV -> Option E
  | .int k, .int k' e => cond (kSame k k') (some e) none
  | .bool, .bool e => some e
  | .str, .str e => some e
  | .sl ks, .dsl ks' e => cond (ks.same ks') (some e) none
  | .sl ks, .nilsl => some (.il 0)
  | .sl ks, .dslx ks' e => cond (ks.same ks') (some e) none
  | .fp ks, .dptr ks' e i 0 => cond (ks.same ks') (some (rowE e i)) none
  | .ifc t k, .ifc t' x => cond (Nat.beq t t') (celC k x) none
  | .nilm, .nilmap => some (.il 0)
  | .ap T, .apt T' e 0 => cond (Nat.beq T T') (some e) none
  | .ap _, .nilp => some (.il (-1))
  | _, _ => none
def rowC : DKs -> List SV -> Option E
  | .nil, [] => some (.il 0)
  | .cons k r, x :: xs =>
    match celC k x, rowC r xs with
    | some a, some b => some (.o2 .cel a b)
    | _, _ => none
  | _, _ => none
def rowOf : List E -> E
  | [] => .il 0
  | e :: r => .o2 .cel e (rowOf r)
def rowWith (e i : E) (j : Nat) (es : List E) : Nat -> Nat -> List E
  | _, 0 => []
  | k, n + 1 => (cond (Nat.ble j k) (match es[k - j]? with | some x => x | none => .o2 (.cell k) e i) (.o2 (.cell k) e i)) :: rowWith e i j es (k + 1) n
def getAr (T : TypeId) : Prog (DKs × E) := do
  let o <- getN (arN T)
  match o with
  | .ar T' ks e => do
    must (Nat.beq T T') "another arena"
    return (ks, e)
  | _ => .fail "no arena"
mutual
def celP : Nat -> DK -> SV -> Prog E
  | 0, k, x => ofOpt (celC k x) "no data"
  | d + 1, k, x =>
    match k, x with
    | .ap T, .ptr n (.c 0) => do
      let o <- getN n
      match o with
      | .fwd T' i => do
        must (Nat.beq T T') "another arena"
        return i
      | .cells T' cs => do
        must (Nat.beq T T') "another arena"
        let a <- getAr T
        let es <- celsP d a.1 cs
        let a' <- getAr T
        must (a.1.same a'.1 && Nat.blt 0 a.1.len) "another arena"
        let o' <- getN n
        match o' with
        | .cells T'' _ => do
          must (Nat.beq T T'') "another object"
          putN (arN T) (.ar T a.1 (.o2 .tcat a'.2 (rowOf es)))
          putN n (.fwd T (mk1 .tlen a'.2))
          return mk1 .tlen a'.2
        | _ => .fail "it leads to itself"
      | _ => .fail "a pointer to what"
    | .fp ks, .ptr n (.c 0) => do
      let o <- getN n
      match o with
      | .dwd ks' e => do
        must (ks.same ks') "another kind"
        return e
      | .cells _ cs => do
        let es <- celsP d ks cs
        let o' <- getN n
        match o' with
        | .cells _ _ => do
          putN n (.dwd ks (rowOf es))
          return rowOf es
        | _ => .fail "it leads to itself"
      | _ => .fail "a pointer to what"
    | .ifc t k, .ifc t' x => do
      must (Nat.beq t t') "another type"
      celP d k x
    | k, x => ofOpt (celC k x) "no data"
def celsP : Nat -> DKs -> List SV -> Prog (List E)
  | _, .nil, [] => .ret []
  | 0, _, _ => .fail "no data: too deep"
  | d + 1, .cons k r, x :: l => do
    let e <- celP d k x
    let es <- celsP d r l
    return e :: es
  | _, _, _ => .fail "no data: kinds"
end
def deepN : Nat := 60
def loadA (P : Program) (t : TypeId) (T : TypeId) (i : E) (j : Nat) : Prog SV := do
  vcE (leE (.il 0) i)
  let d <- und P t
  let ti <- inf P t
  let a <- getAr T
  match isAggD d with
  | true => do
    let l <- ofOpt (dcells a.1 a.2 i j ti.size) "no such cells"
    return .agg l
  | false => do
    let l <- ofOpt (dcells a.1 a.2 i j 1) "no such cells"
    match l with
    | [v] => return v
    | _ => .fail "one cell wanted"
def loadS2 (P : Program) (t : TypeId) (x : SV) : Prog SV :=
  match x with
  | .apt T i j => loadA P t T i j
  | .ptr n (.c j) => do
    let o <- getN n
    match o with
    | .fwd T i => loadA P t T i j
    | .dwd ks e => loadS P t (.dptr ks e (.il 0) j)
    | _ => loadS P t x
  | _ => loadS P t x
def dksFrom : DKs -> Nat -> DKs
  | ks, 0 => ks
  | .nil, _ => .nil
  | .cons _ r, j + 1 => dksFrom r j
def dksTake : DKs -> Nat -> DKs
  | _, 0 => .nil
  | .nil, _ => .nil
  | .cons k r, n + 1 => .cons k (dksTake r n)
def storeA (P : Program) (t : TypeId) (T : TypeId) (i : E) (j : Nat) (v : SV) : Prog Unit := do
  vcE (leE (.il 0) i)
  let ti <- inf P t
  must (Nat.beq v.cells.length ti.size) "store: size"
  must (v.cells.all SV.one) "store: a cell that is none"
  let a <- getAr T
  let es <- celsP deepN (dksTake (dksFrom a.1 j) v.cells.length) v.cells
  let a' <- getAr T
  must (a.1.same a'.1 && Nat.ble (j + v.cells.length) a.1.len) "store: another arena"
  putN (arN T) (.ar T a.1 (.o2 .tset a'.2 (.o2 .cel i (rowOf (rowWith a'.2 i j es 0 a.1.len)))))
def tcCols : DKs -> E -> Nat -> List Col
  | .nil, _, _ => []
  | .cons k r, e, j => .tc k e j :: tcCols r e (j + 1)
def tcatE (a b : E) : E :=
  match a, b with
  | .il _, b => b
  | a, .il _ => a
  | a, b => .o2 .tcat a b
def tailC (ks : DKs) : List (List SV) -> Option E
  | [] => some (.il 0)
  | t :: r =>
    match rowC ks t, tailC ks r with
    | some a, some b => some (tcatE a b)
    | _, _ => none
def projC : DKs -> E -> Nat -> List Col -> Bool
  | .nil, _, _, [] => true
  | .cons k r, e, j, .tc k' e' j' :: cs => k.same k' && e.same e' && Nat.beq j j' && projC r e (j + 1) cs
  | _, _, _, _ => false
def headE : List Col -> Option E
  | .tc _ e _ :: _ => some e
  | _ => none
def rowBase (ks : DKs) (cols : List Col) : Option E :=
  match headE cols with
  | some e => cond (projC ks e 0 cols) (some e) none
  | none => cond cols.isEmpty (some (.il 0)) none
def colsKs : List Col -> Option DKs
  | [] => some .nil
  | .tc k _ _ :: r => match colsKs r with | some ks => some (.cons k ks) | none => none
  | _ => none
def celsC : DKs -> List SV -> Option (List E)
  | .nil, [] => some []
  | .cons k r, x :: l =>
    match celC k x, celsC r l with
    | some e, some es => some (e :: es)
    | _, _ => none
  | _, _ => none
def storeR (P : Program) (t : TypeId) (n : Nat) (i : E) (sz j : Nat) (v : SV) (T : TypeId) (sz' : Nat) (len : E) (cols : List Col) (e : E) : Prog Unit := do
  let ti <- inf P t
  must (Nat.beq v.cells.length ti.size) "store: size"
  must (v.cells.all SV.one) "store: a cell that is none"
  must (Nat.beq sz sz') "another size"
  let ks <- ofOpt (colsKs cols) "store: a row that is no tree"
  must (projC ks e 0 cols && Nat.beq ks.len sz && Nat.ble (j + v.cells.length) ks.len) "store: a row that is no tree"
  vcE (leE (.il 0) i)
  vcE (ltE i len)
  vcE (ltE i (mk1 .tlen e))
  let es <- ofOpt (celsC (dksTake (dksFrom ks j) v.cells.length) v.cells) "store: no data"
  putN n (.row T sz len (tcCols ks (.o2 .tset e (.o2 .cel i (rowOf (rowWith e i j es 0 ks.len)))) 0) [])
def storeS2 (P : Program) (t : TypeId) (x v : SV) : Prog Unit :=
  match x with
  | .apt T i j => storeA P t T i j v
  | .ptr n (.el i sz j) => do
    let o <- getN n
    match o with
    | .row T sz' len cols tail =>
      match tail, headE cols with
      | [], some e => storeR P t n i sz j v T sz' len cols e
      | _, _ => storeS P t x v
    | _ => storeS P t x v
  | .ptr n (.c j) => do
    let o <- getN n
    match o with
    | .fwd T i => storeA P t T i j v
    | _ => storeS P t x v
  | _ => storeS P t x v
def fieldS2 (P : Program) (t : TypeId) (x : SV) (f : Nat) : Prog SV :=
  match x with
  | .apt T i j => do
    vcE (leE (.il 0) i)
    let u <- und P t
    match u with
    | .struct fields => do
      let fd <- ofOpt fields[f]? "no such field"
      let sz <- ofOpt (sizeT P fd.type) "a field's type"
      match sz with
      | 0 => do
        let a <- getAr T
        must ((byteOfCell P P.depth T (j % P.cellsOf T)).isSome) "a field without cells"
        must (Nat.blt 0 (P.cellsOf T)) "a field without cells"
        must ((byteOfCell P P.depth T ((j + fd.offset) % P.cellsOf T)).isSome) "a field without cells"
        return .anyp
      | _ + 1 => return .apt T i (j + fd.offset)
    | _ => .fail "fieldAddr: struct"
  | .ptr n (.c j) => do
    let o <- getN n
    match o with
    | .fwd T i => do
      let u <- und P t
      match u with
      | .struct fields => do
        let fd <- ofOpt fields[f]? "no such field"
        let sz <- ofOpt (sizeT P fd.type) "a field's type"
        match sz with
        | 0 => .fail "a field without cells"
        | _ + 1 => return .ptr n (.c (j + fd.offset))
      | _ => .fail "fieldAddr: struct"
    | _ => fieldS P t x f
  | _ => fieldS P t x f
def kkOf : TypeDesc -> Option KK
  | .int k => some (.int k)
  | .bool => some .bool
  | .string => some .str
  | _ => none
def keyOk : KK -> SV -> Bool
  | .int k, .int k' _ => kSame k k'
  | .bool, .bool _ => true
  | .str, .str _ => true
  | _, _ => false
def keyE : SV -> SV -> Option E
  | .int _ a, .int _ b => some (mk2 .ieq a b)
  | .bool a, .bool b => some (mk2 .beq a b)
  | .str a, .str b => some (mk2 .seq a b)
  | _, _ => none
def findS (key : SV) : List (SV × KV) -> Nat -> Prog (Option Nat)
  | [], _ => .ret none
  | (k, _) :: r, i => do
    let e <- ofOpt (keyE k key) "a key"
    let t <- decE e
    match t with
    | true => return some i
    | false => findS key r (i + 1)
def knowS : KV -> Prog (Option SV)
  | .no => .ret none
  | .yes x => .ret (some x)
  | .may b x => do
    let t <- decE b
    match t with
    | true => return some x
    | false => return none
def mapD (P : Program) (t : TypeId) : Prog (KK × TypeId) := do
  let u <- und P t
  match u with
  | .map kt el => do
    let d <- und P kt
    let kk <- ofOpt (kkOf d) "a map's keys"
    return (kk, el)
  | _ => .fail "a map wanted"
def lookupS (P : Program) (t : TypeId) (x key : SV) (commaOk : Bool) : Prog SV := do
  let d <- mapD P t
  must (keyOk d.1 key) "a key's kind"
  let z <- zeroS P d.2
  let give (v : SV) (b : Bool) : Prog SV := cond commaOk (.ret (.tup [v, .bool (.bl b)])) (.ret v)
  match x with
  | .nilmap => give z false
  | .map n => do
    let o <- getN n
    match o with
    | .map m _ kk _ known => do
      must (kkSame kk d.1) "another map"
      let i <- findS key known 0
      match i with
      | some i => do
        let y <- ofOpt known[i]? "no such key"
        let q <- knowS y.2
        match q with
        | some v => give v true
        | none => give z false
      | none => do
        must (Nat.beq m 0) "a key of which nothing is known"
        give z false
    | _ => .fail "no map"
  | _ => .fail "no map"
def updateS (P : Program) (t : TypeId) (x key v : SV) : Prog Unit := do
  let d <- mapD P t
  must (keyOk d.1 key) "a key's kind"
  match x with
  | .map n => do
    let o <- getN n
    match o with
    | .map m ix kk sz known => do
      must (kkSame kk d.1) "another map"
      let i <- findS key known 0
      match i with
      | some i => do
        let y <- ofOpt known[i]? "no such key"
        let q <- knowS y.2
        match q with
        | some _ => putN n (.map m ix kk sz (known.set i (y.1, .yes v)))
        | none => putN n (.map m ix kk (addI sz (.il 1)) (known.set i (y.1, .yes v)))
      | none => do
        must (Nat.beq m 0) "a key of which nothing is known"
        putN n (.map m ix kk (addI sz (.il 1)) (known ++ [(key, .yes v)]))
    | _ => .fail "no map"
  | _ => .fail "no map"
def deleteS (P : Program) (t : TypeId) (x key : SV) : Prog SV := do
  let d <- mapD P t
  must (keyOk d.1 key) "a key's kind"
  match x with
  | .nilmap => return .tup []
  | .map n => do
    let o <- getN n
    match o with
    | .map m ix kk sz known => do
      must (kkSame kk d.1) "another map"
      let i <- findS key known 0
      match i with
      | some i => do
        let y <- ofOpt known[i]? "no such key"
        let q <- knowS y.2
        match q with
        | some _ => do
          putN n (.map m ix kk (subI sz (.il 1)) (known.set i (y.1, .no)))
          return .tup []
        | none => return .tup []
      | none => do
        must (Nat.beq m 0) "a key of which nothing is known"
        return .tup []
    | _ => .fail "no map"
  | _ => .fail "no map"
def keyV : SV -> Option E
  | .int _ e => some e
  | .bool e => some e
  | .str e => some e
  | _ => none
def vcells (ks : DKs) (e i : E) : Nat -> Nat -> Option (List SV)
  | _, 0 => some []
  | j, n + 1 =>
    match ks.get j, vcells ks e i (j + 1) n with
    | some k, some l => some (dcellS k (.o2 (.cell (j + 1)) e i) :: l)
    | _, _ => none
def bSame (a b : Bool) : Bool := cond a b (cond b false true)
def dmpAt (x : SV) : Prog (Option (Nat × KK × Bool × DKs × E × Option Nat)) :=
  match x with
  | .map n => do
    let o <- getN n
    match o with
    | .dmp kk ag ks e it => return some (n, kk, ag, ks, e, it)
    | _ => return none
  | _ => .ret none
def lookupS2 (P : Program) (t : TypeId) (x key : SV) (commaOk : Bool) : Prog SV := do
  let m <- dmpAt x
  match m with
  | none => lookupS P t x key commaOk
  | some (n, kk, ag, ks, e, it) => do
    let d <- mapD P t
    must (keyOk d.1 key) "a key's kind"
    must (kkSame kk d.1) "another map"
    let z <- zeroS P d.2
    let k <- ofOpt (keyV key) "a key"
    let give (v : SV) (b : Bool) : Prog SV := cond commaOk (.ret (.tup [v, .bool (.bl b)])) (.ret v)
    let b <- decE (leE (.il 0) (.o2 (.mf kk.q) e k))
    match b with
    | true => do
      let l <- ofOpt (vcells ks e (.o2 (.mf kk.q) e k) 0 ks.len) "a map's element"
      match ag with
      | true => give (.agg l) true
      | false =>
        match l with
        | [v] => give v true
        | _ => .fail "one cell wanted"
    | false => give z false
def updateS2 (P : Program) (t : TypeId) (x key v : SV) : Prog Unit := do
  let m <- dmpAt x
  match m with
  | none => updateS P t x key v
  | some (n, kk, ag, ks, e, it) => do
    let d <- mapD P t
    must (keyOk d.1 key) "a key's kind"
    must (kkSame kk d.1) "another map"
    must (bSame ag v.isAggS) "a map's element"
    must v.shut "a map's element"
    let k <- ofOpt (keyV key) "a key"
    let es <- celsP deepN ks v.cells
    let o <- getN n
    match o with
    | .dmp kk' ag' ks' e' _ => do
      must (kkSame kk kk' && bSame ag ag' && ks.same ks') "another map"
      putN n (.dmp kk ag ks (.o2 (.mp kk.q) e' (.o2 .cel k (rowOf es))) none)
    | _ => .fail "no map"
def deleteS2 (P : Program) (t : TypeId) (x key : SV) : Prog SV := do
  let m <- dmpAt x
  match m with
  | none => deleteS P t x key
  | some (n, kk, ag, ks, e, it) => do
    let d <- mapD P t
    must (keyOk d.1 key) "a key's kind"
    must (kkSame kk d.1) "another map"
    let k <- ofOpt (keyV key) "a key"
    putN n (.dmp kk ag ks (.o2 (.md kk.q) e k) it)
    return .tup []
def lenS2 (P : Program) (t : TypeId) (x : SV) : Prog SV := do
  let m <- dmpAt x
  match m with
  | none => lenS P t x
  | some (_, _, _, _, e, _) => do
    let u <- und P t
    match u with
    | .map .. => return .int .i64 (mk1 .tlen e)
    | _ => .fail "len: not taken"
def makeChanS (P : Program) (nm : Nat) (t : TypeId) (x : SV) : Prog SV := do
  let u <- und P t
  match u, x with
  | .chan _ elem, .int _ (.il (.ofNat k)) => do
    let i <- inf P elem
    must (Nat.ble k 9223372036854775807 && Nat.ble (i.bytes * k) 281474976710544) "makeChan: a size"
    newS nm (.chan (.bl false))
    return .chan nm
  | _, _ => .fail "makeChan: not taken"
def closeS (x : SV) : Prog SV :=
  match x with
  | .chan n => do
    let o <- getN n
    match o with
    | .chan c => do
      vcE (notE c)
      putN n (.chan (.bl true))
      return .tup []
    | _ => .fail "close: no channel"
  | _ => .fail "close: not taken"
def rangeS (P : Program) (nm : Nat) (t : TypeId) (x : SV) : Prog SV := do
  let m <- dmpAt x
  match m with
  | some (n, kk, ag, ks, e, _) => do
    let u <- und P t
    match u with
    | .map _ _ => do
      newS nm (.itr n kk (.il 0))
      putN n (.dmp kk ag ks e (some nm))
      return .ptr nm (.c 0)
    | _ => .fail "range: no map"
  | none =>
    match x with
    | .map n => do
      let o <- getN n
      match o with
      | .map m ix kk (.il 0) known => do
        let u <- und P t
        match u with
        | .map _ _ => do
          newS nm (.itr n kk (.il 0))
          putN n (.dmp kk false (.cons .bool .nil) (.il 0) (some nm))
          return .ptr nm (.c 0)
        | _ => .fail "range: no map"
      | _ => .fail "range"
    | _ => .fail "range"
def noRows : E -> Bool
  | .il _ => true
  | _ => false
def nextS (x : SV) : Prog SV :=
  match x with
  | .ptr n (.c 0) => do
    let o <- getN n
    match o with
    | .itr m kk V => do
      let o2 <- getN m
      match o2 with
      | .dmp kk' ag ks e (some n') => do
        must (Nat.beq n n' && kkSame kk kk' && noRows e) "next: a map that may have keys"
        return .tup [.bool (.bl false)]
      | _ => .fail "next: no map"
    | _ => .fail "next: no iterator"
  | _ => .fail "next"
def lastK : E -> Option E
  | .o2 .tcat _ (.o2 .cel k (.il 0)) => some k
  | .o2 .cel k (.il 0) => some k
  | _ => none
def KK.sv : KK -> E -> SV
  | .int k, e => .int k e
  | .bool, e => .bool e
  | .str, e => .str e
def entryS (x : SV) : Prog SV :=
  match x with
  | .ptr n (.c 0) => do
    let o <- getN n
    match o with
    | .itr m kk V => do
      let k <- ofOpt (lastK V) "entry: no step yet"
      let o2 <- getN m
      match o2 with
      | .dmp kk' ag ks e (some n') => do
        must (Nat.beq n n' && kkSame kk kk') "entry: another map"
        let b <- decE (leE (.il 0) (.o2 (.mf kk.q) e k))
        must b "entry: gone"
        let l <- ofOpt (vcells ks e (.o2 (.mf kk.q) e k) 0 ks.len) "a map's element"
        match ag with
        | true => return .tup [kk.sv k, .agg l]
        | false =>
          match l with
          | [v] => return .tup [kk.sv k, v]
          | _ => .fail "one cell wanted"
      | _ => .fail "entry: no map"
    | _ => .fail "entry: no iterator"
  | _ => .fail "entry"
def makeMapS (P : Program) (nm : Nat) (t : TypeId) (r : Option SV) : Prog SV := do
  let d <- mapD P t
  match r with
  | none => do
    newS nm (.map 0 (.il 0) d.1 (.il 0) [])
    return .map nm
  | some (.int _ _) => do
    newS nm (.map 0 (.il 0) d.1 (.il 0) [])
    return .map nm
  | _ => .fail "makeMap: a size"
def slice3S (P : Program) (t : TypeId) (x : SV) (lo : Option SV) (hi mx : SV) : Prog SV := do
  let u <- und P t
  match u, x, lo, hi, mx with
  | .slice elem, .dsl ks e, none, .int _ h, .int _ m => do
    let s <- ofOpt (sizeT P elem) "an element's type"
    must (Nat.beq s ks.len) "another size"
    must (h.same m) "slice of three: bounds"
    vcE (leE (.il 0) h); vcE (leE h (mk1 .tlen e))
    return .dslx ks (subT e (.il 0) h)
  | _, _, _, _, _ => .fail "slice of three: not taken"
def makeSliceS (P : Program) (nm : Nat) (t : TypeId) (x y : SV) : Prog SV := do
  let u <- und P t
  match u, x, y with
  | .slice elem, .int _ (.il (.ofNat n)), .int _ c => do
    let i <- inf P elem
    must (Nat.blt 0 i.size) "makeSlice: elements without cells"
    must (Nat.ble i.bytes 4096) "makeSlice: large elements"
    must (Nat.ble n 65536) "makeSlice: long"
    vcE (leE (.il (n : Nat)) c)
    vcE (leE c (.il 2147483648))
    let z <- zeroS P elem
    must (Nat.beq z.cells.length i.size) "makeSlice: the zero's size"
    newS nm (.row elem i.size (.il 0) [] (repl n z.cells))
    return .sl nm i.size (.il 0) (.il (n : Nat))
  | _, _, _ => .fail "makeSlice: not taken"
def rowEnd (len : E) (tail : List (List SV)) : E := addI len (.il (tail.length : Nat))
def srcS (sz : Nat) (x : SV) : Prog (List (List SV)) :=
  match x with
  | .nilsl => .ret []
  | .sl n sz' lo len => do
    must (Nat.beq sz sz') "append: sizes"
    let o <- getN n
    match o with
    | .row _ sz'' (.il 0) [] tail => do
      must (Nat.beq sz sz'') "append: sizes"
      let a <- ofOpt (nat? lo) "append: from"
      let k <- ofOpt (nat? len) "append: how many"
      must (Nat.beq ((tail.drop a).take k).length k) "append: out of range"
      must (((tail.drop a).take k).flatten.all SV.one) "append: open values"
      return (tail.drop a).take k
    | _ => .fail "append: of what"
  | _ => .fail "append: of what"
def appendT (P : Program) (nm : Nat) (elem : TypeId) (sz : Nat) (s : SV) (ks : DKs) (e : E) : Prog SV := do
  must (Nat.beq ks.len sz) "append: sizes"
  let b <- decE (mk2 .ieq (mk1 .tlen e) (.il 0))
  match s with
  | .nilsl =>
    match b with
    | true => return .nilsl
    | false => do
      vcE (leE (mk1 .tlen e) (.il 2147483648))
      newS nm (.row elem sz (mk1 .tlen e) (tcCols ks e 0) [])
      return .sl nm sz (.il 0) (mk1 .tlen e)
  | .dslx ks' a => do
    must (ks.same ks') "append: kinds"
    match b with
    | true => return .dslx ks' a
    | false => do
      vcE (leE (mk1 .tlen (tcatE a e)) (.il 2147483648))
      newS nm (.row elem sz (mk1 .tlen (tcatE a e)) (tcCols ks (tcatE a e) 0) [])
      return .sl nm sz (.il 0) (mk1 .tlen (tcatE a e))
  | .sl n sz' (.il 0) len => do
    must (Nat.beq sz' sz) "append: sizes"
    let o <- getN n
    match o with
    | .row T sz2 rl cols tail => do
      must (Nat.beq sz2 sz) "append: sizes"
      must (Nat.beq T elem) "append: types"
      let a <- ofOpt (rowBase ks cols) "append: a tree to what"
      let tl <- ofOpt (tailC ks tail) "append: a tree to what"
      vcE (mk2 .ieq rl (mk1 .tlen a))
      vcE (mk2 .ieq len (rowEnd rl tail))
      match b with
      | true => return .sl n sz' (.il 0) len
      | false => do
        vcE (leE (mk1 .tlen (tcatE (tcatE a tl) e)) (.il 2147483648))
        putN n .gone
        newS nm (.row elem sz (mk1 .tlen (tcatE (tcatE a tl) e)) (tcCols ks (tcatE (tcatE a tl) e) 0) [])
        return .sl nm sz (.il 0) (mk1 .tlen (tcatE (tcatE a tl) e))
    | _ => .fail "append: a tree to what"
  | _ => .fail "append: a tree to what"
def isDsl : SV -> Option (DKs × E)
  | .dsl ks e => some (ks, e)
  | _ => none
def appendS (P : Program) (nm : Nat) (t : TypeId) (s x : SV) : Prog SV := do
  let u <- und P t
  match u with
  | .slice elem => do
    let i <- inf P elem
    must (Nat.blt 0 i.size) "append: elements without cells"
    must (Nat.ble i.bytes 4096) "append: large elements"
    must (Nat.ble i.size 4096) "append: large elements"
    let z <- zeroS P elem
    must (Nat.beq z.cells.length i.size) "append: the zero's size"
    match isDsl x with
    | some (ks, e) => appendT P nm elem i.size s ks e
    | none => do
    let new <- srcS i.size x
    match s with
    | .dslx ks a =>
      match new with
      | [] => return .dslx ks a
      | _ :: _ => .fail "append: to what"
    | .nilsl =>
      match new with
      | [] => return .nilsl
      | _ :: _ => do
        must (Nat.blt new.length 1048576) "append: many"
        newS nm (.row elem i.size (.il 0) [] new)
        return .sl nm i.size (.il 0) (.il (new.length : Nat))
    | .sl n sz (.il 0) len => do
      must (Nat.beq sz i.size) "append: sizes"
      let o <- getN n
      match o with
      | .row T sz' rl cols tail => do
        must (Nat.beq sz' i.size) "append: sizes"
        must (Nat.beq T elem) "append: types"
        match tail with
        | [] => do
          vcE (leE (.il 0) len)
          vcE (leS len rl)
          vcE (leE len (.il 2147483648))
          must (Nat.blt new.length 1048576) "append: many"
          putN n .gone
          newS nm (.row elem i.size len cols new)
          return .sl nm i.size (.il 0) (rowEnd len new)
        | _ :: _ => do
          vcE (mk2 .ieq len (rowEnd rl tail))
          vcE (leE (.il 0) rl)
          vcE (leE (rowEnd rl tail) (.il 2147483648))
          must (Nat.blt new.length 1048576) "append: many"
          putN n .gone
          newS nm (.row elem i.size rl cols (tail ++ new))
          return .sl nm i.size (.il 0) (rowEnd rl (tail ++ new))
      | _ => .fail "append: to what"
    | _ => .fail "append: to what"
  | _ => .fail "append: slice"
def builtinS (P : Program) (nm : Nat) (b : Builtin) (argTypes : List TypeId) (args : List SV) : Prog SOut :=
  match b, argTypes, args with
  | .len, [t], [x] => do let v <- lenS2 P t x; return .val v
  | .append, [t, u], [s, x] => do
    let d <- und P u
    match d with
    | .slice _ => do let v <- appendS P nm t s x; return .val v
    | _ => .fail "append: of a text"
  | .close, _, [x] => do let v <- closeS x; return .val v
  | .delete, [t, _], [x, k] => do let v <- deleteS2 P t x k; return .val v
  | .min, _, [.int k a, .int k' b] => return .val (.int k (mk2 .mn a b))
  | .max, _, [.int k a, .int k' b] => return .val (.int k (mk2 .mx a b))
  | _, _, _ => .fail "a builtin that is not taken"
def evalS (sl : List SV) : Operand -> Option SV
  | .tmp t => some (sl[t]?.getD sundef)
  | .const v => ofVal v
  | .global _ => none
  | .func f => some (.fn (.func f) [] [])
def evs (ev : Operand -> Option SV) : List Operand -> Prog (List SV)
  | [] => .ret []
  | x :: r => do
    let v <- ofOpt (ev x) "an operand"
    let l <- evs ev r
    return v :: l
def evp (ev : Operand -> Option SV) : List (Nat × Operand) -> Prog (List (Nat × SV))
  | [] => .ret []
  | (i, x) :: r => do
    let v <- ofOpt (ev x) "an operand"
    let l <- evp ev r
    return (i, v) :: l
def evo (ev : Operand -> Option SV) : Option Operand -> Prog (Option SV)
  | none => .ret none
  | some x => do
    let v <- ofOpt (ev x) "an operand"
    return some v
def ev1 (ev : Operand -> Option SV) (x : Operand) : Prog SV := ofOpt (ev x) "an operand"
def byPtr : Option (FuncId × Bool) -> Bool
  | some (_, true) => true
  | _ => false
def valO (p : Prog SV) : Prog SOut := do let v <- p; return .val v
def callS (P : Program) (nm : Nat) (ev : Operand -> Option SV) (c : Call) : Prog SOut := do
  let args <- evs ev c.args.toList
  match c.callee with
  | .builtin b => builtinS P nm b c.argTypes.toList args
  | .invoke r name => do
    let x <- ev1 ev r
    callM P x name args
  | .value f => do
    let x <- ev1 ev f
    match x with
    | .fn (.func g) first cap => callF P g (first ++ args ++ cap)
    | _ => .fail "a call of what"
def deferS (ev : Operand -> Option SV) (c : Call) : Prog SOut := do
  let args <- evs ev c.args.toList
  match c.callee with
  | .value f => do
    let x <- ev1 ev f
    match x with
    | .fn (.func g) first cap => return .defer (.func g) cap (first ++ args)
    | _ => .fail "a deferred call of what"
  | _ => .fail "a deferred call of what"
def opName : Op -> String
  | .makeSlice .. => "makeSlice" | .mapEntry .. => "mapEntry" | .entryStore .. => "entryStore" | .next .. => "next" | .panic _ => "panic" | .slice .. => "slice of three"
  | .sliceToArrayPointer .. => "sliceToArrayPointer" | .ready _ => "ready" | .waits _ => "waits" | .go _ => "go" | .send .. => "send" | .recv .. => "recv" | .select .. => "select" | _ => "an operation"
def opS (P : Program) (nm : Nat) (ev : Operand -> Option SV) (op : Op) : Prog SOut :=
  match op with
  | .move x => valO (ev1 ev x)
  | .assign x => valO (ev1 ev x)
  | .pick c a b => do
    let x <- ev1 ev c
    match x with
    | .bool e => do
      let t <- decE e
      valO (ev1 ev (cond t a b))
    | _ => .fail "pick: bool"
  | .alloc t => valO (do let z <- zeroS P t; boxS P nm t z)
  | .box t x => valO (do let v <- ev1 ev x; boxS P nm t v)
  | .build t parts => valO (do let l <- evp ev parts.toList; buildS P t l)
  | .buildSlice t n parts => valO (do let l <- evp ev parts.toList; buildSliceS P nm t n l)
  | .load t a => valO (do let x <- ev1 ev a; loadS2 P t x)
  | .store t a x => do
    let p <- ev1 ev a
    let v <- ev1 ev x
    storeS2 P t p v
    return .skip
  | .nilCheck x => valO (do
    let v <- ev1 ev x
    match v with
    | .ptr .. => return v
    | .dptr .. => return v
    | .apt _ i _ => do
      vcE (leE (.il 0) i)
      return v
    | .anyp => return v
    | .ifc .. => return v
    | .fn (.func _) _ _ => return v
    | .fn (.method name) [.ifc t x] c => do
      let i <- inf P t
      let m <- ofOpt (i.methods.find? (·.name == name)) "no such method"
      must m.path.isEmpty "a method of an embedded field"
      must (byPtr m.func) "a method's value, of a value"
      return v
    | _ => .fail "nil, or not taken")
  | .binOp o t x y _ => valO (do
    let a <- ev1 ev x
    let b <- ev1 ev y
    guardS P o t x y a b
    binS P o t a b)
  | .unOp o _ x => valO (do let v <- ev1 ev x; unS o v)
  | .convert s d x => valO (do let v <- ev1 ev x; convS P s d v)
  | .makeInterface t x => valO (do let v <- ev1 ev x; ifaceS P t v)
  | .makeFunc fn first cap => valO (do
    let a <- evs ev first.toList
    let c <- evs ev cap.toList
    return .fn fn a c)
  | .slice t x lo (some hi) (some mx) => valO (do
    let v <- ev1 ev x
    let l <- evo ev lo
    let h <- ev1 ev hi
    let m <- ev1 ev mx
    slice3S P t v l h m)
  | .slice t x lo hi none => valO (do
    let v <- ev1 ev x
    let l <- evo ev lo
    let h <- evo ev hi
    sliceS P t v l h)
  | .fieldAddr t x f => valO (do let v <- ev1 ev x; fieldS2 P t v f)
  | .field t x f => valO (do let v <- ev1 ev x; fieldV P t v f)
  | .indexAddr t x i => valO (do let v <- ev1 ev x; let j <- ev1 ev i; indexS P t v j)
  | .index t x i => valO (do let v <- ev1 ev x; let j <- ev1 ev i; indexV P t v j)
  | .makeChan t s => valO (do let v <- ev1 ev s; makeChanS P nm t v)
  | .makeMap t r => valO (do let l <- evo ev r; makeMapS P nm t l)
  | .entry x => valO (do let v <- ev1 ev x; entryS v)
  | .range t x => valO (do let v <- ev1 ev x; rangeS P nm t v)
  | .next x false => valO (do let v <- ev1 ev x; nextS v)
  | .makeSlice t l c => valO (do let x <- ev1 ev l; let y <- ev1 ev c; makeSliceS P nm t x y)
  | .lookup t x i ok => valO (do let v <- ev1 ev x; let j <- ev1 ev i; lookupS2 P t v j ok)
  | .mapUpdate t m k x => do
    let a <- ev1 ev m
    let b <- ev1 ev k
    let c <- ev1 ev x
    updateS2 P t a b c
    return .skip
  | .insert t m k x => do
    let a <- ev1 ev m
    let b <- ev1 ev k
    let c <- ev1 ev x
    updateS2 P t a b c
    return .skip
  | .typeAssert x _ a ok => valO (do let v <- ev1 ev x; assertS P v a ok)
  | .extract x i => valO (do
    let v <- ev1 ev x
    match v with
    | .tup l => ofOpt l[i]? "extract"
    | _ => .fail "extract")
  | .call c => callS P nm ev c
  | .defer c => deferS ev c
  | op => .fail ("not taken: " ++ opName op)
end Go.Sx

