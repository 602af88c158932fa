/-
  SX, PART 3: what an operation of the model does to symbolic values and the heap of named objects.
-/
import Derived.Test.YtdlppkhmmclipaaGreatSxMCore
namespace Go.Sx
open Go.RowKit
set_option linter.unusedVariables false
inductive mg where
 | c (j : Nat)
 | el (i : E) (sz j : Nat)
 deriving Inhabited, Repr
inductive FE where
 | l (bits : Nat)
 | TY (e : E)
 | mul (a b : FE)
 deriving Inhabited, Repr
deriving instance Repr for FieldStep, Fn
mutual
inductive DK where
 | int (k : IntKind)
 | bool
 | str
 | sl (ks : aJ)
 | fp (ks : aJ)
 | eh (t : TypeId) (k : DK)
 | nilm
 | ap (T : TypeId)
inductive aJ where
 | nil
 | cons (k : DK) (r : aJ)
end
instance : Inhabited DK := ⟨.bool⟩
instance : Inhabited aJ := ⟨.nil⟩
def aJ.len : aJ -> Nat
 | .nil => 0
 | .cons _ r => r.len + 1
def aJ.get : aJ -> Nat -> Option DK
 | .nil, _ => none
 | .cons k _, 0 => some k
 | .cons _ r, j + 1 => r.get j
structure Fz where
 ob : Nat -> Option Obj
 ar : Nat -> Nat -> Option Nat
instance : CoeFun Fz (fun _ => Nat -> Option Obj) := ⟨Fz.ob⟩
structure Fz.le (a b : Fz) : Prop where
 ob : ∀ c x, a c = some x -> b c = some x
 ar : ∀ T i c, a.ar T i = some c -> b.ar T i = some c
instance {a b : Fz} : CoeFun (Fz.le a b) (fun _ => ∀ c x, a c = some x -> b c = some x) := ⟨Fz.le.ob⟩
theorem Fz.le_refl (a : Fz) : Fz.le a a := ⟨fun _ _ h => h, fun _ _ _ h => h⟩
theorem Fz.le_trans {a b c : Fz} (h : a.le b) (k : b.le c) : a.le c := ⟨fun n p e => k n p (h n p e), fun T i p e => k.ar T i p (h.ar T i p e)⟩
def oR (fz : Fz) (T : Nat) (z : Int) (j : Nat) (v : Value) : Prop := (z < 0 /\ v = .pointer none) \/ (0 <= z /\ ∃ b, fz.ar T z.toNat = some b /\ v = .pointer (some ⟨b, j, none⟩))
theorem oR.mono {fz fz' : Fz} (h : Fz.le fz fz') {T : Nat} {z : Int} {j : Nat} {v : Value} (r : oR fz T z j v) : oR fz' T z j v := by
 rcases r with r | ⟨h0, b, h1, h2⟩
 ·exact .inl r
 ·exact .inr ⟨h0, b, h.ar _ _ _ h1, h2⟩
def cu (fz : Fz) (b j : Nat) : Option Value :=
 match fz b with
 | some (.cells c _ _) => c[j]?
 | _ => none
mutual
def DK.Rel (fz : Fz) : DK -> Dv -> Value -> Prop
 | .int k, d, v => v = .int k d.I
 | .bool, d, v => v = .bool d.B
 | .str, d, v => v = .string d.S
 | .sl ks, d, v => ∃ A cap, v = .slice A d.T.length cap /\ d.T.length <= cap /\ (0 < d.T.length -> ∃ b o, A = some ⟨b, o, none⟩ /\ ∀ i, i < d.T.length -> ks.Rel fz (fun j => d.at i j) (fun j => cu fz b (o + i * ks.len + j)) 0)
 | .fp ks, d, v => ∃ b o, v = .pointer (some ⟨b, o, none⟩) /\ ks.Rel fz (fun j => d.at 0 j) (fun j => cu fz b (o + j)) 0
 | .eh t k, d, v => ∃ y, v = .iface t y /\ k.Rel fz d y
 | .nilm, _, v => v = .map none
 | .ap T, d, v => oR fz T d.I 0 v
def aJ.Rel (fz : Fz) : aJ -> (Nat -> Dv) -> (Nat -> Option Value) -> Nat -> Prop
 | .nil, _, _, _ => True
 | .cons k r, row, cell, j => (∃ v, cell j = some v /\ k.Rel fz (row j) v) /\ r.Rel fz row cell (j + 1)
end
theorem iZ {fz fz' : Fz} (h : Fz.le fz fz') {b j : Nat} {v : Value} (hv : cu fz b j = some v) : cu fz' b j = some v := by
 unfold cu at hv ⊢; cases hb : fz b with
 | none => rw [hb] at hv; cases hv
 | some x => rw [hb] at hv; rw [h b x hb]; exact hv
mutual
theorem DK.Rel.mono {fz fz' : Fz} (h : Fz.le fz fz') : ∀ {k : DK} {d : Dv} {v : Value}, k.Rel fz d v -> k.Rel fz' d v
 | .int _, _, _, r => r
 | .bool, _, _, r => r
 | .str, _, _, r => r
 | .sl ks, d, v, r => by
   simp only [DK.Rel] at r ⊢; obtain ⟨A, cap, h1, h2, h3⟩ := r; refine ⟨A, cap, h1, h2, fun hl => ?_⟩; obtain ⟨b, o, h4, h5⟩ := h3 hl; exact ⟨b, o, h4, fun i hi => aJ.Rel.mono h (fun j v hv => iZ h hv) (h5 i hi)⟩
 | .fp ks, d, v, r => by
   simp only [DK.Rel] at r ⊢; obtain ⟨b, o, h1, h2⟩ := r; exact ⟨b, o, h1, aJ.Rel.mono h (fun j v hv => iZ h hv) h2⟩
 | .eh t k, d, v, r => by
   simp only [DK.Rel] at r ⊢; obtain ⟨y, h1, h2⟩ := r; exact ⟨y, h1, DK.Rel.mono h h2⟩
 | .nilm, _, _, r => r
 | .ap _, _, _, r => by simp only [DK.Rel] at r ⊢; exact r.mono h
theorem aJ.Rel.mono {fz fz' : Fz} (h : Fz.le fz fz') : ∀ {ks : aJ} {row : Nat -> Dv} {cell cell' : Nat -> Option Value} {j : Nat}, (∀ j v, cell j = some v -> cell' j = some v) -> ks.Rel fz row cell j -> ks.Rel fz' row cell' j
 | .nil, _, _, _, _, _, _ => trivial
 | .cons k ks, _, _, _, _, hc, r => by
   simp only [aJ.Rel] at r ⊢; obtain ⟨⟨v, h1, h2⟩, h3⟩ := r; exact ⟨⟨v, hc _ _ h1, DK.Rel.mono h h2⟩, aJ.Rel.mono h hc h3⟩
end
mutual
def DK.same : DK -> DK -> Bool
 | .int .i8, .int .i8 => true
 | .int .i16, .int .i16 => true
 | .int .i32, .int .i32 => true
 | .int .i64, .int .i64 => true
 | .int .u8, .int .u8 => true
 | .int .u16, .int .u16 => true
 | .int .u32, .int .u32 => true
 | .int .u64, .int .u64 => true
 | .bool, .bool => true
 | .str, .str => true
 | .sl a, .sl b => aJ.same a b
 | .fp a, .fp b => aJ.same a b
 | .eh t a, .eh u b => cond (Nat.beq t u) (DK.same a b) false
 | .nilm, .nilm => true
 | .ap a, .ap b => Nat.beq a b
 | _, _ => false
def aJ.same : aJ -> aJ -> Bool
 | .nil, .nil => true
 | .cons a r, .cons b s => cond (DK.same a b) (aJ.same r s) false
 | _, _ => false
end
mutual
theorem DK.ax : ∀ {a b : DK}, a.same b = true -> a = b := by
 intro a b h; cases a with
 | int k => cases b with
   | int l => cases k <;> cases l <;> first | rfl | (simp [DK.same] at h)
   | _ => cases k <;> simp [DK.same] at h
 | bool => cases b <;> first | rfl | (simp [DK.same] at h)
 | str => cases b <;> first | rfl | (simp [DK.same] at h)
 | sl x => cases b with
   | sl y => simp only [DK.same] at h; rw [aJ.ax h]
   | _ => simp [DK.same] at h
 | fp x => cases b with
   | fp y => simp only [DK.same] at h; rw [aJ.ax h]
   | _ => simp [DK.same] at h
 | eh t x => cases b with
   | eh u y =>
     simp only [DK.same] at h; cases h1 : Nat.beq t u with
     | false => rw [h1] at h; cases h
     | true => rw [h1] at h; rw [Nat.eq_of_beq_eq_true h1, DK.ax h]
   | _ => simp [DK.same] at h
 | nilm => cases b <;> first | rfl | (simp [DK.same] at h)
 | ap x => cases b with
   | ap y => simp only [DK.same] at h; rw [Nat.eq_of_beq_eq_true h]
   | _ => simp [DK.same] at h
theorem aJ.ax : ∀ {a b : aJ}, a.same b = true -> a = b := by
 intro a b h; cases a with
 | nil => cases b <;> first | rfl | (simp [aJ.same] at h)
 | cons x r => cases b with
   | nil => simp [aJ.same] at h
   | cons y s =>
     simp only [aJ.same] at h; cases h1 : x.same y with
     | false => rw [h1] at h; cases h
     | true => rw [h1] at h; rw [DK.ax h1, aJ.ax h]
end
theorem DK.Rel.rows {fz : Fz} {ks : aJ} {d d' : Dv} {v : Value} (h : (DK.sl ks).Rel fz d v) (e : d.T = d'.T) : (DK.sl ks).Rel fz d' v := by
 simp only [DK.Rel, Dv.at] at h ⊢; rw [<- e]; exact h
theorem aJ.Rel.get {fz : Fz} : ∀ {ks : aJ} {row : Nat -> Dv} {cell : Nat -> Option Value} {j i : Nat} {k : DK}, ks.Rel fz row cell j -> ks.get i = some k -> ∃ v, cell (j + i) = some v /\ k.Rel fz (row (j + i)) v
 | .nil, _, _, _, i, _, _, h => by simp [aJ.get] at h
 | .cons k r, _, _, j, 0, _, h, hk => by
   simp only [aJ.get, Option.some.injEq] at hk; subst hk; simp only [aJ.Rel] at h; exact h.1
 | .cons k r, _, _, j, i + 1, _, h, hk => by
   simp only [aJ.get] at hk; simp only [aJ.Rel] at h; have := aJ.Rel.get h.2 hk; rw [show j + (i + 1) = j + 1 + i by omega]
   exact this
inductive SV where
 | int (k : IntKind) (e : E)
 | bool (e : E)
 | str (e : E)
 | BZ (e : FE)
 | val (c : Nat) (i : E)
 | gm
 | ptr (n : Nat) (o : mg)
 | mS
 | cr
 | sl (n sz : Nat) (lo len : E)
 | cg (ks : aJ) (e : E)
 | gV (ks : aJ) (e : E)
 | dC (ks : aJ) (e i : E) (j : Nat)
 | pq (T : TypeId) (i : E) (j : Nat)
 | cC
 | map (n : Nat)
 | chan (n : Nat)
 | mF
 | iC
 | fn (f : Fn) (first cap : List SV)
 | dO
 | eh (t : TypeId) (x : SV)
 | agg (l : List SV)
 | fq (l : List SV)
 | top
 | B1 (v : Value)
 deriving Inhabited
structure Pl where
 block : Nat
 base : Nat
 cap : Nat
 nil : Bool
 gh : Option (Nat × List (Value × Nat))
structure af where
 pl : Nat -> Option Pl
 fz : Fz
instance : CoeFun af (fun _ => Nat -> Option Pl) := ⟨af.pl⟩
structure af.le (ρ ρ' : af) : Prop where
 pl : ∀ n p, ρ n = some p -> ρ' n = some p
 fz : Fz.le ρ.fz ρ'.fz
instance {ρ ρ' : af} : CoeFun (af.le ρ ρ') (fun _ => ∀ n p, ρ n = some p -> ρ' n = some p) := ⟨af.le.pl⟩
theorem af.le_refl (ρ : af) : ρ.le ρ := ⟨fun _ _ h => h, Fz.le_refl _⟩
theorem af.le_trans {a b c : af} (h : a.le b) (k : b.le c) : a.le c := ⟨fun n p e => k n p (h n p e), Fz.le_trans h.fz k.fz⟩
@[reducible] def af.re (ρ : af) (σ : Nat -> Nat) : af := ⟨fun n => ρ (σ n), ρ.fz⟩
def mg.den (env : Env) : mg -> Nat
 | .c j => j
 | .el i sz j => (i.den env).I.toNat * sz + j
def FE.den (env : Env) : FE -> Nat
 | .l b => b
 | .TY e => FloatKind.f64.nearest (e.den env).I
 | .mul a b => (FloatKind.f64.format.mul (a.den env) (b.den env)).getD 0
mutual
def SV.Rel (env : Env) (ρ : af) : SV -> Value -> Prop
 | .int k e, v => v = .int k (e.den env).I
 | .bool e, v => v = .bool (e.den env).B
 | .str e, v => v = .string (e.den env).S
 | .BZ e, v => v = .float .f64 (e.den env)
 | .val c i, v => v = env.val c (i.den env).I
 | .gm, v => v = .pointer none
 | .ptr n o, v => ∃ p, ρ n = some p /\ v = .pointer (some ⟨p.block, p.base + o.den env, none⟩)
 | .mS, v => ∃ a, v = .pointer (some a)
 | .cr, v => v = .slice none 0 0
 | .sl n sz lo len, v => ∃ p A, ρ n = some p /\ v = .slice A (len.den env).I.toNat (p.cap - (lo.den env).I.toNat) /\
     (A = none ↔ p.nil = true) /\ ((lo.den env).I.toNat < p.cap -> A = some ⟨p.block, p.base + (lo.den env).I.toNat * sz, none⟩) /\
     (lo.den env).I.toNat + (len.den env).I.toNat <= p.cap /\ 0 <= (lo.den env).I
 | .cg ks e, v => (DK.sl ks).Rel ρ.fz (e.den env) v
 | .gV ks e, v => (DK.sl ks).Rel ρ.fz (e.den env) v /\ ∃ A n, v = .slice A n n
 | .dC ks e i j, v => ∃ b o, v = .pointer (some ⟨b, o + j, none⟩) /\ ks.Rel ρ.fz (fun j => (e.den env).at (i.den env).I.toNat j) (fun j => cu ρ.fz b (o + j)) 0
 | .pq T i j, v => oR ρ.fz T (i.den env).I j v
 | .cC, v => v = .map none
 | .map n, v => ∃ p, ρ n = some p /\ v = .map (some p.block)
 | .chan n, v => ∃ p, ρ n = some p /\ v = .chan (some p.block)
 | .mF, v => v = .chan none
 | .iC, v => v = .nilFunc
 | .fn f a c, v => ∃ x y, v = .func f x.toArray y.toArray /\ SV.aD env ρ a x /\ SV.aD env ρ c y
 | .dO, v => v = .nilIface
 | .eh t x, v => ∃ y, v = .iface t y /\ SV.Rel env ρ x y
 | .agg l, v => ∃ x, v = .agg x.toArray /\ SV.aD env ρ l x
 | .fq l, v => ∃ x, v = .tuple x.toArray /\ SV.aD env ρ l x
 | .top, v => True
 | .B1 u, v => v = u
def SV.aD (env : Env) (ρ : af) : List SV -> List Value -> Prop
 | [], vs => vs = []
 | x :: l, vs => ∃ v r, vs = v :: r /\ SV.Rel env ρ x v /\ SV.aD env ρ l r
end
mutual
theorem SV.Rel.mono {env : Env} {ρ ρ' : af} (h : ρ.le ρ') : ∀ {x : SV} {v : Value}, x.Rel env ρ v -> x.Rel env ρ' v
 | .int .., _, r => r
 | .bool .., _, r => r
 | .str .., _, r => r
 | .BZ .., _, r => r
 | .val .., _, r => r
 | .gm, _, r => r
 | .ptr .., _, r => by simp only [SV.Rel] at r ⊢; obtain ⟨p, h1, h2⟩ := r; exact ⟨p, h _ _ h1, h2⟩
 | .mS, _, r => r
 | .cr, _, r => r
 | .sl .., _, r => by simp only [SV.Rel] at r ⊢; obtain ⟨p, A, h1, h2⟩ := r; exact ⟨p, A, h _ _ h1, h2⟩
 | .cg .., _, r => by simp only [SV.Rel] at r ⊢; exact DK.Rel.mono h.fz r
 | .gV .., _, r => by simp only [SV.Rel] at r ⊢; exact ⟨DK.Rel.mono h.fz r.1, r.2⟩
 | .dC .., _, r => by simp only [SV.Rel] at r ⊢; obtain ⟨b, o, h1, h2⟩ := r; exact ⟨b, o, h1, aJ.Rel.mono h.fz (fun j v hv => iZ h.fz hv) h2⟩
 | .pq .., _, r => by simp only [SV.Rel] at r ⊢; exact r.mono h.fz
 | .cC, _, r => r
 | .map .., _, r => by simp only [SV.Rel] at r ⊢; obtain ⟨p, h1, h2⟩ := r; exact ⟨p, h _ _ h1, h2⟩
 | .chan .., _, r => by simp only [SV.Rel] at r ⊢; obtain ⟨p, h1, h2⟩ := r; exact ⟨p, h _ _ h1, h2⟩
 | .mF, _, r => r
 | .iC, _, r => r
 | .fn .., _, r => by simp only [SV.Rel] at r ⊢; obtain ⟨x, y, h1, h2, h3⟩ := r; exact ⟨x, y, h1, SV.aD.mono h h2, SV.aD.mono h h3⟩
 | .dO, _, r => r
 | .eh .., _, r => by simp only [SV.Rel] at r ⊢; obtain ⟨y, h1, h2⟩ := r; exact ⟨y, h1, SV.Rel.mono h h2⟩
 | .agg .., _, r => by simp only [SV.Rel] at r ⊢; obtain ⟨y, h1, h2⟩ := r; exact ⟨y, h1, SV.aD.mono h h2⟩
 | .fq .., _, r => by simp only [SV.Rel] at r ⊢; obtain ⟨y, h1, h2⟩ := r; exact ⟨y, h1, SV.aD.mono h h2⟩
 | .top, _, r => r
 | .B1 _, _, r => r
theorem SV.aD.mono {env : Env} {ρ ρ' : af} (h : ρ.le ρ') : ∀ {l : List SV} {vs : List Value}, SV.aD env ρ l vs -> SV.aD env ρ' l vs
 | [], _, r => r
 | x :: l, _, r => by simp only [SV.aD] at r ⊢; obtain ⟨v, q, h1, h2, h3⟩ := r; exact ⟨v, q, h1, SV.Rel.mono h h2, SV.aD.mono h h3⟩
end
theorem SV.aD.length {env : Env} {ρ : af} : ∀ {l : List SV} {vs : List Value}, SV.aD env ρ l vs -> vs.length = l.length
 | [], _, r => by simp only [SV.aD] at r; subst r; rfl
 | x :: l, _, r => by simp only [SV.aD] at r; obtain ⟨v, q, rfl, _, h⟩ := r; simp [SV.aD.length h]
theorem SV.aD.get {env : Env} {ρ : af} : ∀ {l : List SV} {vs : List Value} {i : Nat} {x : SV}, SV.aD env ρ l vs -> l[i]? = some x -> ∃ v, vs[i]? = some v /\ x.Rel env ρ v
 | [], _, _, _, _, h => by simp at h
 | y :: l, _, i, x, r, h => by
   simp only [SV.aD] at r; obtain ⟨v, q, rfl, hv, hq⟩ := r; cases i with
   | zero => simp at h; subst h; exact ⟨v, rfl, hv⟩
   | succ i => simp at h; obtain ⟨v', h1, h2⟩ := SV.aD.get hq h; exact ⟨v', by simpa using h1, h2⟩
theorem SV.aD.append {env : Env} {ρ : af} : ∀ {l m : List SV} {vs ws : List Value}, SV.aD env ρ l vs -> SV.aD env ρ m ws -> SV.aD env ρ (l ++ m) (vs ++ ws)
 | [], _, _, _, r, s => by simp only [SV.aD] at r; subst r; exact s
 | x :: l, _, _, _, r, s => by
   simp only [SV.aD] at r; obtain ⟨v, q, rfl, hv, hq⟩ := r; exact ⟨v, _, rfl, hv, SV.aD.append hq s⟩
theorem SV.aD.take {env : Env} {ρ : af} : ∀ {l : List SV} {vs : List Value} (n : Nat), SV.aD env ρ l vs -> SV.aD env ρ (l.take n) (vs.take n)
 | [], _, n, r => by simp only [SV.aD] at r; subst r; simp [SV.aD]
 | x :: l, _, n, r => by
   simp only [SV.aD] at r; obtain ⟨v, q, rfl, hv, hq⟩ := r; cases n with
   | zero => simp [SV.aD]
   | succ n => simp only [List.take_succ_cons, SV.aD]; exact ⟨v, _, rfl, hv, SV.aD.take n hq⟩
theorem SV.aD.drop {env : Env} {ρ : af} : ∀ {l : List SV} {vs : List Value} (n : Nat), SV.aD env ρ l vs -> SV.aD env ρ (l.drop n) (vs.drop n)
 | [], _, n, r => by simp only [SV.aD] at r; subst r; simp [SV.aD]
 | x :: l, _, n, r => by
   cases n with
   | zero => exact r
   | succ n =>
     simp only [SV.aD] at r; obtain ⟨v, q, rfl, hv, hq⟩ := r; exact SV.aD.drop n hq
theorem SV.aD.set {env : Env} {ρ : af} : ∀ {l : List SV} {vs : List Value} (i : Nat) {x : SV} {v : Value}, SV.aD env ρ l vs -> x.Rel env ρ v -> SV.aD env ρ (l.set i x) (vs.set i v)
 | [], _, n, _, _, r, _ => by simp only [SV.aD] at r; subst r; simp [SV.aD]
 | y :: l, _, i, x, v, r, hx => by
   simp only [SV.aD] at r; obtain ⟨u, q, rfl, hv, hq⟩ := r; cases i with
   | zero => exact ⟨v, q, rfl, hx, hq⟩
   | succ i => exact ⟨u, _, rfl, hv, SV.aD.set i hq hx⟩
def gG : DK -> E -> SV
 | .int k, e => .int k e
 | .bool, e => .bool e
 | .str, e => .str e
 | .sl ks, e => .cg ks e
 | .fp ks, e => .dC ks e (.il 0) 0
 | .eh t k, e => .eh t (gG k e)
 | .nilm, _ => .cC
 | .ap T, e => .pq T e 0
inductive ch where
 | int (k : IntKind) (c : Nat)
 | bool (c : Nat)
 | str (c : Nat)
 | val (c : Nat)
 | cg (ks : aJ) (c : Nat)
 | tc (k : DK) (e : E) (j : Nat)
 deriving Inhabited
def ch.at : ch -> E -> SV
 | .int k c, i => .int k (.fn c i)
 | .bool c, i => .bool (.fn c i)
 | .str c, i => .str (.fn c i)
 | .val c, i => .val c i
 | .cg ks c, i => .cg ks (.fn c i)
 | .tc k e j, i => gG k (.o2 (.cell j) e i)
theorem cM {env : Env} {ρ : af} {k : DK} {x : E} {v : Value} : (gG k x).Rel env ρ v ↔ k.Rel ρ.fz (x.den env) v := by
 cases k with
 | fp ks => simp only [gG, SV.Rel, DK.Rel, E.den, Dv.I, Int.toNat_zero, Nat.add_zero]
 | eh t k => simp only [gG, SV.Rel, DK.Rel, cM (k := k)]
 | _ => simp only [gG, SV.Rel, DK.Rel]
termination_by structural k
inductive KK where
 | int (k : IntKind)
 | bool
 | str
 deriving Inhabited, Repr
def dT : KK -> KK -> Bool
 | .int .i8, .int .i8 | .int .i16, .int .i16 | .int .i32, .int .i32 | .int .i64, .int .i64 | .int .u8, .int .u8 | .int .u16, .int .u16 | .int .u32, .int .u32 | .int .u64, .int .u64 => true
 | .bool, .bool => true
 | .str, .str => true
 | _, _ => false
theorem c9 {a b : KK} (h : dT a b = true) : a = b := by
 cases a <;> cases b <;> first
  | rfl
  | (rename_i x y; cases x <;> cases y <;> first | rfl | (cases h; done))
  | (cases h; done)
  | (rename_i x; cases x <;> (cases h; done))
def KK.ok : KK -> Value -> Prop
 | .int k, v => ∃ n, v = .int k n
 | .bool, v => ∃ b, v = .bool b
 | .str, v => ∃ s, v = .string s
def KK.dv : KK -> Dv -> Value
 | .int k, d => .int k d.I
 | .bool, d => .bool d.B
 | .str, d => .string d.S
def KK.q : KK -> KQ
 | .int _ => .i
 | .bool => .b
 | .str => .s
def cf : Value -> Value -> Bool
 | .int _ a, .int _ b => a == b
 | .bool a, .bool b => a == b
 | .string a, .string b => a.toList == b.toList
 | _, _ => false
theorem eG {kk : KK} {a b : Value} (ha : kk.ok a) (hb : kk.ok b) : cf a b = true ↔ a = b := by
 cases kk with
 | int k => obtain ⟨x, rfl⟩ := ha; obtain ⟨y, rfl⟩ := hb; simp [cf]
 | bool => obtain ⟨x, rfl⟩ := ha; obtain ⟨y, rfl⟩ := hb; simp [cf]
 | str =>
   obtain ⟨x, rfl⟩ := ha; obtain ⟨y, rfl⟩ := hb; constructor
   ·intro h; have h : (x.toList == y.toList) = true := h; have h2 : x.toList = y.toList := by simpa using h
    have t : ∀ z : ByteArray, z.toList = z.data.toList := fun z => by
     have : z = ByteArray.mk z.data.toList.toArray := by cases z; simp
     rw [this, ByteArray.toList_mk]
    rw [t, t] at h2; have e : x = y := ByteArray.ext (Array.toList_inj.1 h2); rw [e]
   ·intro h; injection h with h; subst h; simp [cf]
def cont : List (Value × Option Value) -> (Value -> Option Value) -> Value -> Option Value
 | [], r, k => r k
 | (k', v) :: l, r, k => cond (cf k' k) v (cont l r k)
def res (env : Env) (m : Nat) (i : Int) : Value -> Option Value :=
 match m with
 | 0 => fun _ => none
 | m => env.mp m i
mutual
def SV.fl (env : Env) : SV -> Option Value
 | .int k e => some (.int k (e.den env).I)
 | .bool e => some (.bool (e.den env).B)
 | .str e => some (.string (e.den env).S)
 | .val c i => some (env.val c (i.den env).I)
 | .gm => some (.pointer none)
 | .cr => some (.slice none 0 0)
 | .dO => some .nilIface
 | .agg l => (SV.fls env l).map fun vs => .agg vs.toArray
 | _ => none
def SV.fls (env : Env) : List SV -> Option (List Value)
 | [] => some []
 | x :: l =>
   match SV.fl env x, SV.fls env l with
   | some v, some vs => some (v :: vs)
   | _, _ => none
end
mutual
theorem SV.fl_ok {env : Env} {ρ : af} : ∀ {x : SV} {u v : Value}, SV.fl env x = some u -> x.Rel env ρ v -> v = u
 | .int .., _, _, h, r => by simp only [SV.fl, Option.some.injEq] at h; simp only [SV.Rel] at r; rw [r, h]
 | .bool .., _, _, h, r => by simp only [SV.fl, Option.some.injEq] at h; simp only [SV.Rel] at r; rw [r, h]
 | .str .., _, _, h, r => by simp only [SV.fl, Option.some.injEq] at h; simp only [SV.Rel] at r; rw [r, h]
 | .val .., _, _, h, r => by simp only [SV.fl, Option.some.injEq] at h; simp only [SV.Rel] at r; rw [r, h]
 | .gm, _, _, h, r => by simp only [SV.fl, Option.some.injEq] at h; simp only [SV.Rel] at r; rw [r, h]
 | .cr, _, _, h, r => by simp only [SV.fl, Option.some.injEq] at h; simp only [SV.Rel] at r; rw [r, h]
 | .dO, _, _, h, r => by simp only [SV.fl, Option.some.injEq] at h; simp only [SV.Rel] at r; rw [r, h]
 | .agg l, _, _, h, r => by
   simp only [SV.fl, Option.map_eq_some_iff] at h; obtain ⟨vs, h1, h2⟩ := h; simp only [SV.Rel] at r; obtain ⟨us, r1, r2⟩ := r; rw [r1, <- h2, SV.fls_ok h1 r2]
 | .BZ .., _, _, h, _ => by simp [SV.fl] at h
 | .ptr .., _, _, h, _ => by simp [SV.fl] at h
 | .mS, _, _, h, _ => by simp [SV.fl] at h
 | .sl .., _, _, h, _ => by simp [SV.fl] at h
 | .cC, _, _, h, _ => by simp [SV.fl] at h
 | .map .., _, _, h, _ => by simp [SV.fl] at h
 | .chan .., _, _, h, _ => by simp [SV.fl] at h
 | .mF, _, _, h, _ => by simp [SV.fl] at h
 | .iC, _, _, h, _ => by simp [SV.fl] at h
 | .fn .., _, _, h, _ => by simp [SV.fl] at h
 | .eh .., _, _, h, _ => by simp [SV.fl] at h
 | .fq .., _, _, h, _ => by simp [SV.fl] at h
 | .top, _, _, h, _ => by simp [SV.fl] at h
 | .B1 .., _, _, h, _ => by simp [SV.fl] at h
theorem SV.fls_ok {env : Env} {ρ : af} : ∀ {l : List SV} {us vs : List Value}, SV.fls env l = some us -> SV.aD env ρ l vs -> vs = us
 | [], us, vs, h, r => by simp only [SV.fls, Option.some.injEq] at h; simp only [SV.aD] at r; rw [r, h]
 | x :: l, us, vs, h, r => by
   simp only [SV.fls] at h; split at h
   ·rename_i u us' h1 h2; injection h with h; subst h; simp only [SV.aD] at r; obtain ⟨v, q, rfl, r1, r2⟩ := r; rw [SV.fl_ok h1 r1, SV.fls_ok h2 r2]
   ·cases h
end
inductive KV where
 | no
 | yes (x : SV)
 | may (b : E) (x : SV)
 deriving Inhabited
def Mk (env : Env) : KV -> Option (Option Value)
 | .no => some none
 | .yes x => (SV.fl env x).map some
 | .may b x => (SV.fl env x).map fun v => cond (b.den env).B (some v) none
def DG (env : Env) : List (SV × KV) -> Option (List (Value × Option Value))
 | [] => some []
 | (k, x) :: l =>
   match SV.fl env k, Mk env x, DG env l with
   | some a, some b, some r => some ((a, b) :: r)
   | _, _, _ => none
inductive Ob where
 | e (x : E)
 | mp (kk : KK) (m : Nat) (ix : E) (known : List (SV × KV)) (m' : Nat) (ix' : E) (known' : List (SV × KV))
 | t (a b : E)
 | p (a b : E)
def Ob.den (env : Env) : Ob -> Prop
 | .e x => (x.den env).B = true
 | .mp kk m ix known m' ix' known' => ∃ kv kv', DG env known = some kv /\ DG env known' = some kv' /\ ∀ k, kk.ok k -> cont kv (res env m (ix.den env).I) k = cont kv' (res env m' (ix'.den env).I) k
 | .t a b => (a.den env).T = (b.den env).T
 | .p a b => (a.den env).T.Perm (b.den env).T
inductive aA where
 | cells (T : TypeId) (cs : List SV)
 | row (T : TypeId) (sz : Nat) (len : E) (cols : List ch) (tail : List (List SV))
 | qW (sz : Nat) (len : E) (cols : List ch)
 | map (m : Nat) (ix : E) (kk : KK) (sz : E) (known : List (SV × KV))
 | ar (T : TypeId) (ks : aJ) (e : E)
 | fwd (T : TypeId) (i : E)
 | OB (ks : aJ) (e : E)
 | k7 (kk : KK) (ag : Bool) (ks : aJ) (e : E) (it : Option Nat)
 | pf (m : Nat) (kk : KK) (V : E)
 | rA (T : TypeId) (ks : aJ) (e : E)
 | chan (closed : E)
 | dP
 | gone
 deriving Inhabited
def dI (T : Nat) : Nat := 500000 + T
abbrev aL := Nat -> Option aA
def ay (h : aL) (n : Nat) : Option aA := h n
def bf (h : aL) (n : Nat) (x : aA) : aL := fun k => if k = n then some x else h k
theorem ai (h : aL) (n : Nat) (x : aA) (k : Nat) : ay (bf h n x) k = if k = n then some x else ay h k := rfl
abbrev aQ := List (Nat × aA)
def bZ : aQ -> Nat -> Option aA
 | [], _ => none
 | (m, o) :: r, n => cond (Nat.beq m n) (some o) (bZ r n)
def Ai : aQ -> Nat -> aA -> aQ
 | [], n, x => [(n, x)]
 | (m, o) :: r, n, x => cond (Nat.beq m n) ((n, x) :: r) (cond (Nat.blt m n) ((n, x) :: (m, o) :: r) ((m, o) :: Ai r n x))
def bg (c : aQ) : aL := fun n => bZ c n
theorem th (h : aQ) (n : Nat) (x : aA) : bg (Ai h n x) = bf (bg h) n x := by
 funext k
 unfold bg bf
 induction h with
 | nil =>
   unfold Ai bZ bZ
   by_cases e : k = n
   ·subst e; simp
   ·have : Nat.beq n k = false := by rw [Bool.eq_false_iff]; intro h; exact e (Nat.eq_of_beq_eq_true h).symm
    simp [this, e]
 | cons p r ih =>
   obtain ⟨m, o⟩ := p; unfold Ai; cases h1 : Nat.beq m n with
   | true =>
     obtain rfl := Nat.eq_of_beq_eq_true h1; simp only [cond_true, bZ]
     by_cases e : k = m
     ·subst e; simp
     ·have : Nat.beq m k = false := by rw [Bool.eq_false_iff]; intro h; exact e (Nat.eq_of_beq_eq_true h).symm
      simp [this, e]
   | false =>
     have hmn : m ≠ n := fun e => by subst e; simp at h1
     cases h2 : Nat.blt m n with
     | true =>
       simp only [cond_false, cond_true, bZ]
       by_cases e : k = n
       ·subst e; simp
       ·have : Nat.beq n k = false := by rw [Bool.eq_false_iff]; intro h; exact e (Nat.eq_of_beq_eq_true h).symm
        simp [this, e]
     | false =>
       simp only [cond_false, bZ, ih]; cases h3 : Nat.beq m k with
       | true =>
         obtain rfl := Nat.eq_of_beq_eq_true h3; simp [hmn]
       | false => simp
inductive Err where
 | undecided (e : E)
 | msg (s : String)
 deriving Repr
abbrev Ex (α : Type) := Except Err α
inductive Prog (α : Type) : Type where
 | ret (a : α)
 | fail (m : String)
 | get (n : Nat) (k : aA -> Prog α)
 | put (n : Nat) (o : aA) (k : Prog α)
 | vc (e : Ob) (k : Prog α)
 | dec (e : E) (k : Bool -> Prog α)
namespace Prog
def bind {α β : Type} : Prog α -> (α -> Prog β) -> Prog β
 | .ret a, f => f a
 | .fail m, _ => .fail m
 | .get n k, f => .get n fun o => (k o).bind f
 | .put n o k, f => .put n o (k.bind f)
 | .vc e k, f => .vc e (k.bind f)
 | .dec e k, f => .dec e fun b => (k b).bind f
instance : Monad Prog where
 pure := Prog.ret
 bind := Prog.bind
end Prog
structure aG where
 rd : List Nat
 wr : List Nat
 deriving Repr
structure YF (α : Type) where
 a : α
 h : aQ
 vcs : List Ob
 ft : aG
def nH (fs : aa) : Ob -> Option Bool
 | .e x => ck fs x
 | .t a b => cond (a.same b) (some true) none
 | .p a b => cond (a.same b) (some true) none
 | _ => none
theorem xP {env : Env} {fs : aa} (hf : fs.aB env) {o : Ob} (h : nH fs o = some true) : o.den env := by
 cases o with
 | e x => exact qM hf h
 | mp => cases h
 | t a b =>
   simp only [nH] at h; cases hs : a.same b with
   | true => show (a.den env).T = (b.den env).T; rw [E.ax hs]
   | false => rw [hs] at h; cases h
 | p a b =>
   simp only [nH] at h; cases hs : a.same b with
   | true => show (a.den env).T.Perm (b.den env).T; rw [E.ax hs]
   | false => rw [hs] at h; cases h
def Prog.run {α : Type} (fs : aa) : Prog α -> aQ -> List Ob -> aG -> Ex (YF α)
 | .ret a, h, vcs, ft => .ok ⟨a, h, vcs, ft⟩
 | .fail m, _, _, _ => .error (.msg m)
 | .get n k, h, vcs, ft =>
   match bZ h n with
   | some o => (k o).run fs h vcs ⟨n :: ft.rd, ft.wr⟩
   | none => .error (.msg "no such name")
 | .put n o k, h, vcs, ft => k.run fs (Ai h n o) vcs ⟨ft.rd, n :: ft.wr⟩
 | .vc e k, h, vcs, ft =>
   match nH fs e with
   | some true => k.run fs h vcs ft
   | some false => .error (.msg "a condition that is false")
   | none => k.run fs h (e :: vcs) ft
 | .dec e k, h, vcs, ft =>
   match ck fs e with
   | some b => (k b).run fs h vcs ft
   | none => .error (.undecided e)
def Prog.Ev {α : Type} (env : Env) : Prog α -> aL -> α -> aL -> aG -> aG -> Prop
 | .ret a, h, b, h', ft, ft' => a = b /\ h = h' /\ ft = ft'
 | .fail _, _, _, _, _, _ => False
 | .get n k, h, b, h', ft, ft' => ∃ o, ay h n = some o /\ (k o).Ev env h b h' ⟨n :: ft.rd, ft.wr⟩ ft'
 | .put n o k, h, b, h', ft, ft' => k.Ev env (bf h n o) b h' ⟨ft.rd, n :: ft.wr⟩ ft'
 | .vc e k, h, b, h', ft, ft' => e.den env /\ k.Ev env h b h' ft ft'
 | .dec e k, h, b, h', ft, ft' => (k (e.den env).B).Ev env h b h' ft ft'
theorem Prog.Ev.local {α : Type} {env : Env} : ∀ {p : Prog α} {h : aL} {a : α} {h' : aL} {ft ft' : aG}, p.Ev env h a h' ft ft' ->
    ∃ R W, ft' = ⟨R ++ ft.rd, W ++ ft.wr⟩ /\ (∀ n, n ∉ W -> h' n = h n) /\
     ∀ (t : aL) (gt : aG), (∀ n ∈ R, t n = h n) -> ∃ t', p.Ev env t a t' gt ⟨R ++ gt.rd, W ++ gt.wr⟩ /\ ∀ n, t' n = if n ∈ W then h' n else t n
 | .ret a, h, b, h', ft, ft', ⟨h1, h2, h3⟩ => by
   subst h1; subst h2; subst h3; exact ⟨[], [], rfl, fun n _ => rfl, fun t gt _ => ⟨t, ⟨rfl, rfl, rfl⟩, fun n => by simp⟩⟩
 | .fail _, _, _, _, _, _, e => e.elim
 | .get n k, h, b, h', ft, ft', ⟨o, h1, h2⟩ => by
   obtain ⟨R, W, e, hw, hl⟩ := Prog.Ev.local h2; refine ⟨R ++ [n], W, by rw [e]; simp, hw, fun t gt ht => ?_⟩
   obtain ⟨t', g1, g2⟩ := hl t ⟨n :: gt.rd, gt.wr⟩ (fun m hm => ht m (List.mem_append_left _ hm)); refine ⟨t', ⟨o, ?_, by simpa using g1⟩, g2⟩
   show t n = some o; rw [ht n (by simp)]
   exact h1
 | .put n o k, h, b, h', ft, ft', h2 => by
   obtain ⟨R, W, e, hw, hl⟩ := Prog.Ev.local (p := k) h2; refine ⟨R, W ++ [n], by rw [e]; simp, fun m hm => ?_, fun t gt ht => ?_⟩
   ·simp only [List.mem_append, List.mem_singleton, not_or] at hm; rw [hw m hm.1]; show (if m = n then some o else h m) = h m
    rw [if_neg hm.2]
   ·obtain ⟨t', g1, g2⟩ := hl (bf t n o) ⟨gt.rd, n :: gt.wr⟩ (fun m hm => by
      show (if m = n then some o else t m) = (if m = n then some o else h m)
      rw [ht m hm])
    refine ⟨t', by show Prog.Ev env k (bf t n o) b t' ⟨gt.rd, n :: gt.wr⟩ _; simpa using g1, fun m => ?_⟩
    rw [g2 m]
    by_cases hmW : m ∈ W
    ·simp [hmW]
    ·by_cases hmn : m = n
     ·subst hmn; rw [if_neg hmW, if_pos (by simp), hw m hmW]
      simp [bf]
     ·rw [if_neg hmW, if_neg (by simp [hmW, hmn])]
      show (if m = n then some o else t m) = t m
      rw [if_neg hmn]
 | .vc e k, h, b, h', ft, ft', ⟨h1, h2⟩ => by
   obtain ⟨R, W, e, hw, hl⟩ := Prog.Ev.local h2; refine ⟨R, W, e, hw, fun t gt ht => ?_⟩; obtain ⟨t', g1, g2⟩ := hl t gt ht; exact ⟨t', ⟨h1, g1⟩, g2⟩
 | .dec e k, h, b, h', ft, ft', h2 => by
   obtain ⟨R, W, e, hw, hl⟩ := Prog.Ev.local (p := k _) h2; refine ⟨R, W, e, hw, fun t gt ht => ?_⟩; obtain ⟨t', g1, g2⟩ := hl t gt ht; exact ⟨t', g1, g2⟩
def bH : SV := .fq []
mutual
def ofVal : Value -> Option SV
 | .bool b => some (.bool (.bl b))
 | .int k n => some (.int k (.il n))
 | .string s => some (.str (.sl s.data.toList))
 | .float .f64 b => some (.BZ (.l b))
 | .pointer none => some .gm
 | .slice none 0 0 => some .cr
 | .map none => some .cC
 | .chan none => some .mF
 | .nilFunc => some .iC
 | .nilIface => some .dO
 | .func f ⟨[]⟩ ⟨[]⟩ => some (.fn f [] [])
 | .agg ⟨cs⟩ => (ofVals cs).map .agg
 | .tuple ⟨cs⟩ => (ofVals cs).map .fq
 | _ => none
def ofVals : List Value -> Option (List SV)
 | [] => some []
 | v :: r =>
   match ofVal v, ofVals r with
   | some x, some l => some (x :: l)
   | _, _ => none
end
def SV.cells : SV -> List SV
 | .agg l => l
 | x => [x]
def SV.one : SV -> Bool
 | .agg _ => false
 | .fq _ => false
 | .val .. => false
 | .top => false
 | .B1 _ => false
 | _ => true
def SV.shut : SV -> Bool
 | .val .. => false
 | .top => false
 | .B1 _ => false
 | _ => true
def setAt (l : List SV) (j : Nat) (vs : List SV) : List SV := l.take j ++ vs ++ l.drop (j + vs.length)
def aY {α : Type} (o : Option α) (m : String) : Prog α :=
 match o with
 | some a => .ret a
 | none => .fail m
def fe (n : Nat) : Prog aA := .get n .ret
def iG (n : Nat) (o : aA) : Prog Unit := .put n o (.ret ())
def jX (e : E) : Prog Unit := .vc (.e e) (.ret ())
def vcO (o : Ob) : Prog Unit := .vc o (.ret ())
def BJ (e : E) : Prog Bool := .dec e .ret
def aS (b : Bool) (m : String) : Prog Unit := cond b (.ret ()) (.fail m)
def p8 (P : Program) (t : TypeId) : Prog TypeDesc := aY (P.underlying t) "no type"
def inf (P : Program) (t : TypeId) : Prog TypeInfo := aY (P.info? t) "no type"
def jz : TypeDesc -> Bool
 | .struct _ => true
 | .array _ _ => true
 | _ => false
def nQ (P : Program) (t : TypeId) : Prog SV := do
 let i <- inf P t
 let z <- aY i.zero "no zero"
 aY (ofVal z) "a zero value that is not taken"
def takeN (l : List SV) (j n : Nat) : Prog (List SV) := do
 let r := (l.drop j).take n
 aS (Nat.beq r.length n) "cells out of range"
 return r
def kY (a b : E) : E := jK .le a b
def Kr (a b : E) : E := jK .lt a b
def leS (a b : E) : E := cond (a.same b) (.bl true) (kY a b)
def Xo (i len : E) : Prog Unit := do jX (kY (.il 0) i); jX (Kr i len)
def nat? : E -> Option Nat
 | .il (.ofNat n) => some n
 | _ => none
def z8 (a b : E) : E :=
 match a, b with
 | .il 0, b => b
 | a, .il 0 => a
 | a, b => jK .add a b
def PY (a b : E) : E :=
 match b with
 | .il 0 => a
 | b => jK .sub a b
theorem jA (env : Env) (a b : E) : ((z8 a b).den env).I = (a.den env).I + (b.den env).I := by
 unfold z8; split
 ·show _ = (0 : Int) + _; omega
 ·show _ = _ + (0 : Int); omega
 ·rw [bn]; rfl
theorem we (env : Env) (a b : E) : ((PY a b).den env).I = (a.den env).I - (b.den env).I := by
 unfold PY; split
 ·show _ = _ - (0 : Int); omega
 ·rw [bn]; rfl
def DI (i : E) : Nat -> Nat -> Prog Nat
 | _, 0 => .fail "an index that is none of those"
 | k, 1 => do
   jX (jK .aX i (.il (k : Nat)))
   return k
 | k, m + 2 => do
   let t <- BJ (jK .aX i (.il (k : Nat)))
   match t with
   | true => return k
   | false => DI i (k + 1) (m + 1)
def U2 (i : E) (n : Nat) : Prog Nat :=
 match nat? i with
 | some b => .ret b
 | none => DI i 0 n
def dp (o : aA) (off : mg) (n : Nat) : Prog (List SV) :=
 match o, off with
 | .cells _ cs, .c j => takeN cs j n
 | .row _ sz len cols tail, .el i sz' j => do
   aS (Nat.beq sz sz') "another size"
   match tail with
   | [] => do
     Xo i len
     takeN (cols.map (·.at i)) j n
   | _ => do
     let a <- aY (nat? len) "a row with news, of no known length"
     let b <- U2 i (a + tail.length)
     match Nat.blt b a with
     | true => takeN (cols.map (·.at i)) j n
     | false => do
       let x <- aY tail[b - a]? "behind the row"
       takeN x j n
 | .qW sz len cols, .el i sz' j => do
   aS (Nat.beq sz sz') "another size"
   Xo i len
   takeN (cols.map (·.at i)) j n
 | _, _ => .fail "no cells there"
def pd (ks : aJ) (e i : E) : Nat -> Nat -> Option (List SV)
 | _, 0 => some []
 | j, n + 1 =>
   match ks.get j, pd ks e i (j + 1) n with
   | some k, some l => some (gG k (jK (.cell j) e i) :: l)
   | _, _ => none
def uj (P : Program) (t : TypeId) (x : SV) : Prog SV :=
 match x with
 | .ptr n off => do
   let d <- p8 P t
   let i <- inf P t
   let o <- fe n
   match jz d with
   | true => do
     let l <- dp o off i.size
     return .agg l
   | false => do
     let l <- dp o off 1
     match l with
     | [v] => return v
     | _ => .fail "one cell wanted"
 | .dC ks e i j => do
   let d <- p8 P t
   let n <- inf P t
   match jz d with
   | true => do
     let l <- aY (pd ks e i j n.size) "no such cells"
     return .agg l
   | false => do
     let l <- aY (pd ks e i j 1) "no such cells"
     match l with
     | [v] => return v
     | _ => .fail "one cell wanted"
 | _ => .fail "load: no pointer"
def setCells (o : aA) (off : mg) (vs : List SV) : Prog aA :=
 match o, off with
 | .cells T cs, .c j => do
   aS (Nat.ble (j + vs.length) cs.length) "store: out of range"
   return .cells T (setAt cs j vs)
 | .row T sz len cols tail, .el i sz' j => do
   aS (Nat.beq sz sz') "another size"
   let a <- aY (nat? len) "store: a row of no known length"
   let b <- aY (nat? i) "store: an index that is not known"
   aS (Nat.ble a b) "store: into a given row"
   let x <- aY tail[b - a]? "store: behind the row"
   aS (Nat.ble (j + vs.length) x.length) "store: out of range"
   return .row T sz len cols (tail.set (b - a) (setAt x j vs))
 | _, _ => .fail "store: no cells there"
def qP (P : Program) (t : TypeId) (x v : SV) : Prog Unit :=
 match x with
 | .ptr n off => do
   let i <- inf P t
   aS (Nat.beq v.cells.length i.size) "store: size"
   aS (v.cells.all SV.one) "store: a cell that is none"
   let o <- fe n
   let o' <- setCells o off v.cells
   iG n o'
 | _ => .fail "store: no pointer"
def oc (nm : Nat) (o : aA) : Prog Unit := do
 let r <- fe nm
 match r with
 | .dP => iG nm o
 | _ => .fail "the name is taken"
def Mb (P : Program) (nm : Nat) (t : TypeId) (v : SV) : Prog SV := do
 aS v.shut "box: an open value"
 oc nm (.cells t v.cells)
 return .ptr nm (.c 0)
def yO : List (Nat × SV) -> (Nat -> Option (Nat × Nat)) -> List SV -> Option (List SV)
 | [], _, cs => some cs
 | (i, v) :: r, place, cs =>
   match place i with
   | none => none
   | some (off, size) => cond (v.shut && Nat.beq v.cells.length size && Nat.ble (off + v.cells.length) cs.length) (yO r place (setAt cs off v.cells)) none
def kf (P : Program) (t : TypeId) : Option Nat := (P.info? t).map (·.size)
def gQ (P : Program) : List Field -> Option (List (Nat × Nat))
 | [] => some []
 | f :: r =>
   match kf P f.type, gQ P r with
   | some s, some l => some ((f.offset, s) :: l)
   | _, _ => none
def FD (P : Program) (t : TypeId) (parts : List (Nat × SV)) : Prog SV := do
 let z <- nQ P t
 let d <- p8 P t
 match d with
 | .struct fields => do
   let pl <- aY (gQ P fields.toList) "build: a field's type"
   let cs <- aY (yO parts (fun i => pl[i]?) z.cells) "build: parts"
   return .agg cs
 | .array _ elem => do
   let s <- aY (kf P elem) "build: an element's type"
   let cs <- aY (yO parts (fun i => some (i * s, s)) z.cells) "build: parts"
   return .agg cs
 | _ => .fail "build: struct or array"
def p5 {α : Type} (n : Nat) (a : α) : List α :=
 match n with
 | 0 => []
 | n + 1 => a :: p5 n a
def CX : List (Nat × SV) -> Nat -> List (List SV) -> Option (List (List SV))
 | [], _, l => some l
 | (i, v) :: r, sz, l => cond (v.shut && Nat.beq v.cells.length sz && Nat.blt i l.length) (CX r sz (l.set i v.cells)) none
def oL (P : Program) (nm : Nat) (t : TypeId) (len : Nat) (parts : List (Nat × SV)) : Prog SV := do
 let d <- p8 P t
 match d with
 | .slice elem => do
   let sz <- aY (kf P elem) "buildSlice: an element's type"
   aS (Nat.blt 0 sz) "buildSlice: elements without cells"
   aS (Nat.ble (len * sz) 16777216) "buildSlice: too long"
   let z <- nQ P elem
   aS (Nat.beq z.cells.length sz) "buildSlice: the zero's size"
   let l <- aY (CX parts sz (p5 len z.cells)) "buildSlice: parts"
   oc nm (.row elem sz (.il 0) [] l)
   return .sl nm sz (.il 0) (.il (len : Nat))
 | _ => .fail "buildSlice: slice"
def xz : IntKind -> Int
 | .i8 => -128 | .i16 => -32768 | .i32 => -2147483648 | .i64 => -9223372036854775808 | _ => 0
def vN : IntKind -> Int
 | .i8 => 127 | .i16 => 32767 | .i32 => 2147483647 | .i64 => 9223372036854775807
 | .u8 => 255 | .u16 => 65535 | .u32 => 4294967295 | .u64 => 18446744073709551615
def fy : IntKind -> IntKind -> Bool
 | .i8, .i8 | .i16, .i16 | .i32, .i32 | .i64, .i64 | .u8, .u8 | .u16, .u16 | .u32, .u32 | .u64, .u64 => true
 | _, _ => false
def arith (k : IntKind) (e : E) : Prog SV :=
 match e with
 | .il z => .ret (.int k (.il (k.wrap z)))
 | e => do
   jX (kY (.il (xz k)) e)
   jX (kY e (.il (vN k)))
   return .int k e
def lS (e : E) : E := fZ .not e
def VP (a b : E) : E :=
 match a, b with
 | .bl true, b => b
 | a, .bl true => a
 | .bl false, b => lS b
 | a, .bl false => lS a
 | a, b => jK .beq a b
def HU (P : Program) (t : TypeId) (cs : List SV) (off : Nat) : Prog SV := do
 let d <- p8 P t
 let i <- inf P t
 match jz d with
 | true => do
   let l <- takeN cs off i.size
   return .agg l
 | false => aY cs[off]? "no such cell"
def Up (a b : E) : E :=
 match a, b with
 | .bl true, b => b
 | a, .bl true => a
 | a, b => jK .and a b
def LI (P : Program) (rc : TypeId -> SV -> SV -> Prog E) (xs ys : List SV) : List Field -> Prog E
 | [] => .ret (.bl true)
 | f :: r => do
   aS (f.name != "_") "==: a blank field"
   let a <- HU P f.type xs f.offset
   let b <- HU P f.type ys f.offset
   let e <- rc f.type a b
   let e2 <- LI P rc xs ys r
   return Up e e2
def eqS (P : Program) : Nat -> TypeId -> SV -> SV -> Prog E
 | 0, _, _, _ => .fail "==: too deep"
 | d + 1, t, x, y => do
   let u <- p8 P t
   match u, x, y with
   | .bool, .bool a, .bool b => return VP a b
   | .int _, .int k a, .int k' b => do aS (fy k k') "==: kinds"; return jK .aX a b
   | .string, .str a, .str b => return jK .seq a b
   | .pointer _, .gm, .gm => return .bl true
   | .pointer _, .gm, .ptr .. => return .bl false
   | .pointer _, .ptr .., .gm => return .bl false
   | .pointer _, .gm, .dC .. => return .bl false
   | .pointer _, .dC .., .gm => return .bl false
   | .pointer _, .gm, .mS => return .bl false
   | .pointer _, .mS, .gm => return .bl false
   | .pointer _, .gm, .pq _ i _ => return Kr i (.il 0)
   | .pointer _, .pq _ i _, .gm => return Kr i (.il 0)
   | .interface _, .dO, .dO => return .bl true
   | .interface _, .dO, .eh .. => return .bl false
   | .interface _, .eh .., .dO => return .bl false
   | .slice _, .cr, .cr => return .bl true
   | .map .., .cC, .cC => return .bl true
   | .map .., .cC, .map _ => return .bl false
   | .map .., .map _, .cC => return .bl false
   | .func .., .iC, .iC => return .bl true
   | .func .., .iC, .fn .. => return .bl false
   | .func .., .fn .., .iC => return .bl false
   | .struct fs, .agg xs, .agg ys => do
     aS (!(P.stoodInHeld t)) "==: a type that is stood in for"
     LI P (eqS P d) xs ys fs.toList
   | _, _, _ => .fail "==: not taken"
def IX : Operand -> Bool
 | .const _ => true
 | _ => false
def SV.iT : SV -> Bool
 | .dO => true
 | _ => false
def SV.kp : SV -> Bool
 | .agg _ => true
 | _ => false
def Fu (P : Program) (op : BinOp) (t : TypeId) (x y : Operand) (a b : SV) : Prog Unit :=
 match op with
 | .eql | .neq => do
   aS (a.shut && b.shut) "==: open"
   aS (!(a.kp && b.kp) || !(P.eqGuardType P.depth t)) "==: structs with interfaces"
   aS (IX x || IX y || !(a.iT && b.iT)) "==: two nil interfaces"
 | _ => .ret ()
def AE : SV -> Bool
 | .bool _ | .gm | .ptr .. | .dC .. | .pq .. | .mS | .dO | .eh .. | .cr | .sl .. | .cC | .map _ | .iC | .fn .. | .agg _ => true
 | _ => false
def Uy (P : Program) (op : BinOp) (t : TypeId) (x y : SV) : Prog SV :=
 match op, x, y with
 | .shl, _, _ => .fail "shift"
 | .shr, .int k a, .int _ (.il (.ofNat n)) => do aS (Nat.ble n 7) "shift"; jX (kY (.il 0) a); return .int k (jK .quo a (.il ((2 ^ n : Nat) : Int)))
 | .add, .int k a, .int k' b => do aS (fy k k') "kinds"; arith k (jK .add a b)
 | .sub, .int k a, .int k' b => do aS (fy k k') "kinds"; arith k (jK .sub a b)
 | .mul, .int k a, .int k' b => do aS (fy k k') "kinds"; arith k (jK .mul a b)
 | .quo, .int k a, .int k' b => do aS (fy k k') "kinds"; jX (lS (jK .aX b (.il 0))); arith k (jK .quo a b)
 | .rem, .int k a, .int k' b => do aS (fy k k') "kinds"; jX (lS (jK .aX b (.il 0))); return .int k (jK .rem a b)
 | .eql, .int k a, .int k' b => do aS (fy k k') "kinds"; return .bool (jK .aX a b)
 | .neq, .int k a, .int k' b => do aS (fy k k') "kinds"; return .bool (lS (jK .aX a b))
 | .lss, .int k a, .int k' b => do aS (fy k k') "kinds"; return .bool (jK .lt a b)
 | .leq, .int k a, .int k' b => do aS (fy k k') "kinds"; return .bool (jK .le a b)
 | .gtr, .int k a, .int k' b => do aS (fy k k') "kinds"; return .bool (jK .lt b a)
 | .geq, .int k a, .int k' b => do aS (fy k k') "kinds"; return .bool (jK .le b a)
 | .mul, .BZ (.l c), .BZ (.TY e) => do jX (.o1 (.fok c) e); return .BZ (.mul (.l c) (.TY e))
 | .add, .str a, .str b => do jX (kY (jK .add (fZ .size a) (fZ .size b)) (.il 9223372036854775807)); return .str (jK .cat a b)
 | .eql, .str a, .str b => return .bool (jK .seq a b)
 | .neq, .str a, .str b => return .bool (lS (jK .seq a b))
 | .lss, .str a, .str b => return .bool (jK .slt a b)
 | .gtr, .str a, .str b => return .bool (jK .slt b a)
 | .eql, .int .., _ => .fail "=="
 | .neq, .int .., _ => .fail "=="
 | .eql, x, y => do aS (AE x) "=="; let e <- eqS P 10000 t x y; return .bool e
 | .neq, x, y => do aS (AE x) "=="; let e <- eqS P 10000 t x y; return .bool (lS e)
 | .geq, .str a, .str b => return .bool (lS (jK .slt a b))
 | .leq, .str a, .str b => return .bool (lS (jK .slt b a))
 | _, _, _ => .fail "an operator that is not taken"
def unS (op : UnOp) (x : SV) : Prog SV :=
 match op, x with
 | .neg, .int k e => arith k (jK .sub (.il 0) e)
 | .not, .bool e => return .bool (lS e)
 | _, _ => .fail "an operator that is not taken"
def Ns (P : Program) (src dst : TypeId) (x : SV) : Prog SV := do
 let s <- p8 P src
 let d <- p8 P dst
 match s, d, x with
 | _, .int k, .int _ e => arith k e
 | _, .float .f64, .int _ e => return .BZ (.TY e)
 | _, .int .i64, .BZ (.mul (.l c) (.TY e)) => do jX (.o1 (.fok c) e); return .int .i64 (.o1 (.fin c) e)
 | _, .string, .str _ => return x
 | .slice e, .string, .sl n _ (.il 0) (.il 1) => do
   let u <- p8 P e
   match u with
   | .int .u8 => do
     let o <- fe n
     match o with
     | .row _ 1 (.il 0) [] [[.int .u8 c]] => return .str (.o1 .chr c)
     | _ => .fail "a conversion that is not taken"
   | _ => .fail "a conversion that is not taken"
 | _, _, _ => .fail "a conversion that is not taken"
def Bl (P : Program) (t : TypeId) (x : SV) (f : Nat) : Prog SV := do
 let u <- p8 P t
 match u with
 | .struct fields => do
   let fd <- aY fields[f]? "no such field"
   let sz <- aY (kf P fd.type) "a field's type"
   match x with
   | .ptr n (.c j) =>
     match sz with
     | 0 => do
       let o <- fe n
       match o with
       | .cells T cs => do
         aS ((byteOfCell P P.depth T (j % P.cellsOf T)).isSome) "a field without cells"
         aS (Nat.blt 0 (P.cellsOf T)) "a field without cells"
         aS ((byteOfCell P P.depth T ((j + fd.offset) % P.cellsOf T)).isSome) "a field without cells"
         return .mS
       | _ => .fail "a field without cells"
     | _ + 1 => return .ptr n (.c (j + fd.offset))
   | .ptr n (.el i s j) =>
     match sz with
     | 0 => .fail "a field without cells"
     | _ + 1 => return .ptr n (.el i s (j + fd.offset))
   | .dC ks e i j =>
     match sz with
     | 0 => .fail "a field without cells"
     | _ + 1 => return .dC ks e i (j + fd.offset)
   | _ => .fail "fieldAddr: no pointer"
 | _ => .fail "fieldAddr: struct"
def F9 (P : Program) (t : TypeId) (x : SV) (f : Nat) : Prog SV := do
 let u <- p8 P t
 match u, x with
 | .struct fields, .agg cs => do
   let fd <- aY fields[f]? "no such field"
   let d <- p8 P fd.type
   let i <- inf P fd.type
   match jz d with
   | true => do
     let l <- takeN cs fd.offset i.size
     return .agg l
   | false => aY cs[fd.offset]? "no such cell"
 | _, _ => .fail "field: struct"
def Et (P : Program) (t : TypeId) (x ix : SV) : Prog SV := do
 let u <- p8 P t
 match u, x, ix with
 | .slice elem, .sl n sz lo len, .int _ i => do
   let s <- aY (kf P elem) "an element's type"
   aS (Nat.beq s sz) "another size"
   Xo i len
   return .ptr n (.el (z8 lo i) sz 0)
 | .slice elem, .cg ks e, .int _ i => do
   let s <- aY (kf P elem) "an element's type"
   aS (Nat.beq s ks.len) "another size"
   Xo i (fZ .ab e)
   return .dC ks e i 0
 | .array alen elem, .ptr n (.c j), .int _ i => do
   let s <- aY (kf P elem) "an element's type"
   let k <- aY (nat? i) "an array's index that is not known"
   aS (Nat.blt k alen) "an array's index out of range"
   return .ptr n (.c (j + k * s))
 | _, _, _ => .fail "indexAddr: not taken"
def Gl (P : Program) (t : TypeId) (x ix : SV) : Prog SV := do
 let u <- p8 P t
 match u, x, ix with
 | .string, .str s, .int _ i => do
   Xo i (fZ .size s)
   return .int .u8 (.o2 .byte s i)
 | _, _, _ => .fail "index: not taken"
def qN (dflt : E) : Option SV -> Prog E
 | none => .ret dflt
 | some (.int _ e) => .ret e
 | _ => .fail "slice: bound"
def isZ : E -> Bool
 | .il 0 => true
 | _ => false
def yF (e l h : E) : E := cond (isZ l) (cond (h.same (fZ .ab e)) e (.o2 .de e h)) (.o2 .tT (cond (h.same (fZ .ab e)) e (.o2 .de e h)) l)
theorem MS {env : Env} (e l h : E) : ((yF e l h).den env).T = ((e.den env).T.take (h.den env).I.toNat).drop (l.den env).I.toNat := by
 have h1 : ((cond (h.same (fZ .ab e)) e (E.o2 .de e h)).den env).T = (e.den env).T.take (h.den env).I.toNat := by
  cases hs : h.same (fZ .ab e) with
  | true =>
    have : (h.den env).I = (e.den env).T.length := by rw [E.ax hs, bA]; rfl
    rw [this, Int.toNat_natCast, List.take_length]; rfl
  | false => rfl
 unfold yF; cases hz : isZ l with
 | true =>
   have : (l.den env).I = 0 := by
    unfold isZ at hz; split at hz
    ·rfl
    ·cases hz
   rw [this]; exact h1
 | false =>
   show ((cond (h.same (fZ .ab e)) e (E.o2 .de e h)).den env).T.drop _ = _; rw [h1]
def zW (P : Program) (t : TypeId) (x : SV) (lo hi : Option SV) : Prog SV := do
 let u <- p8 P t
 let l <- qN (.il 0) lo
 match u, x with
 | .string, .str s => do
   let h <- qN (fZ .size s) hi
   jX (kY (.il 0) l); jX (kY l h); jX (kY h (fZ .size s))
   return .str (.ext s l h)
 | .slice elem, .sl n sz lo0 len => do
   let s <- aY (kf P elem) "an element's type"
   aS (Nat.beq s sz) "another size"
   let h <- qN len hi
   jX (kY (.il 0) l); jX (kY l h); jX (kY h len)
   return .sl n sz (z8 lo0 l) (PY h l)
 | .slice elem, .cg ks e => do
   let s <- aY (kf P elem) "an element's type"
   aS (Nat.beq s ks.len) "another size"
   let h <- qN (fZ .ab e) hi
   jX (kY (.il 0) l); jX (kY l h); jX (kY h (fZ .ab e))
   return .cg ks (yF e l h)
 | _, _ => .fail "slice: not taken"
def Gf (P : Program) (t : TypeId) (x : SV) : Prog SV := do
 let u <- p8 P t
 match u with
 | .interface _ => .fail "makeInterface: concrete type"
 | _ => return .eh t x
def sr (want : Array (String × TypeId)) (got : Array Method) : List String := (want.toList.filter fun (name, sig) => !got.any fun m => m.name == name && m.sig == sig).map (·.1)
def A9 (P : Program) (x : SV) (asserted : TypeId) (commaOk : Bool) : Prog SV := do
 let u <- p8 P asserted
 let no : Prog SV := cond commaOk (do let z <- nQ P asserted; return .fq [z, .bool (.bl false)]) (.fail "a type assertion that fails")
 let yes (v : SV) : Prog SV := cond commaOk (.ret (.fq [v, .bool (.bl true)])) (.ret v)
 match u, x with
 | .interface _, .dO => no
 | .interface want, .eh t v => do
   let i <- inf P t
   cond (sr want i.methods).isEmpty (yes x) no
 | _, .dO => no
 | _, .eh t v => cond (Nat.beq t asserted) (yes v) no
 | _, _ => .fail "type assertion: not taken"
inductive ph where
 | val (v : SV)
 | skip
 | call (f : FuncId) (args : List SV)
 | defer (fn : Fn) (cap args : List SV)
 deriving Inhabited
def yW (P : Program) (f : FuncId) (args : List SV) : Prog ph := do
 let fn <- aY P.funcs[f]? "no such function"
 aS fn.body.isSome "a function without a body"
 return .call f args
def LB (P : Program) (recv : SV) (name : String) (args : List SV) : Prog ph :=
 match recv with
 | .eh t v => do
   let i <- inf P t
   let m <- aY (i.methods.find? (·.name == name)) "no such method"
   aS m.path.isEmpty "a method of an embedded field"
   let u <- p8 P t
   match m.func with
   | some (f, ptr) =>
     match u, ptr with
     | .pointer _, true => yW P f (v :: args)
     | .pointer _, false => .fail "a method of a value, by a pointer"
     | _, true => .fail "a pointer's method, of a value"
     | _, false => yW P f (v :: args)
   | none => .fail "an embedded interface's method"
 | _ => .fail "invoke: not taken"
def WJ (P : Program) (t : TypeId) (x : SV) : Prog SV := do
 let u <- p8 P t
 match u, x with
 | .string, .str s => return .int .i64 (fZ .size s)
 | .array n _, _ => return .int .i64 (.il (n : Nat))
 | .slice _, .cr => return .int .i64 (.il 0)
 | .slice _, .sl n sz lo len => do jX (kY (.il 0) len); return .int .i64 len
 | .map .., .cC => return .int .i64 (.il 0)
 | .map .., .map n => do
   let o <- fe n
   match o with
   | .map _ _ _ sz _ => return .int .i64 sz
   | _ => .fail "len: no map"
 | ty, .cg _ e =>
   match ty with
   | .slice _ => return .int .i64 (fZ .ab e)
   | _ => .fail "len: not taken"
 | _, _ => .fail "len: not taken"
def yw (a i : E) : E :=
 match i with
 | .il 0 => a
 | i => .o2 .de (.o2 .tT a i) (.il 1)
def jk : DK -> SV -> Option E
 | .int k, .int k' e => cond (fy k k') (some e) none
 | .bool, .bool e => some e
 | .str, .str e => some e
 | .sl ks, .cg ks' e => cond (ks.same ks') (some e) none
 | .sl ks, .cr => some (.il 0)
 | .sl ks, .gV ks' e => cond (ks.same ks') (some e) none
 | .fp ks, .dC ks' e i 0 => cond (ks.same ks') (some (yw e i)) none
 | .eh t k, .eh t' x => cond (Nat.beq t t') (jk k x) none
 | .nilm, .cC => some (.il 0)
 | .ap T, .pq T' e 0 => cond (Nat.beq T T') (some e) none
 | .ap _, .gm => some (.il (-1))
 | _, _ => none
def AM : aJ -> List SV -> Option E
 | .nil, [] => some (.il 0)
 | .cons k r, x :: xs =>
   match jk k x, AM r xs with
   | some a, some b => some (.o2 .bT a b)
   | _, _ => none
 | _, _ => none
def rowOf : List E -> E
 | [] => .il 0
 | e :: r => .o2 .bT e (rowOf r)
def dG (e i : E) (j : Nat) (es : List E) : Nat -> Nat -> List E
 | _, 0 => []
 | k, n + 1 => (cond (Nat.ble j k) (match es[k - j]? with | some x => x | none => .o2 (.cell k) e i) (.o2 (.cell k) e i)) :: dG e i j es (k + 1) n
def uE (T : TypeId) : Prog (aJ × E) := do
 let o <- fe (dI T)
 match o with
 | .ar T' ks e => do
   aS (Nat.beq T T') "another arena"
   return (ks, e)
 | _ => .fail "no arena"
mutual
def celP : Nat -> DK -> SV -> Prog E
 | 0, k, x => aY (jk k x) "no data"
 | d + 1, k, x =>
   match k, x with
   | .ap T, .ptr n (.c 0) => do
     let o <- fe n
     match o with
     | .fwd T' i => do
       aS (Nat.beq T T') "another arena"
       return i
     | .cells T' cs => do
       aS (Nat.beq T T') "another arena"
       let a <- uE T
       let es <- celsP d a.1 cs
       let a' <- uE T
       aS (a.1.same a'.1 && Nat.blt 0 a.1.len) "another arena"
       let o' <- fe n
       match o' with
       | .cells T'' _ => do
         aS (Nat.beq T T'') "another object"
         iG (dI T) (.ar T a.1 (.o2 .fj a'.2 (rowOf es)))
         iG n (.fwd T (fZ .ab a'.2))
         return fZ .ab a'.2
       | _ => .fail "it leads to itself"
     | _ => .fail "a pointer to what"
   | .fp ks, .ptr n (.c 0) => do
     let o <- fe n
     match o with
     | .OB ks' e => do
       aS (ks.same ks') "another kind"
       return e
     | .cells _ cs => do
       let es <- celsP d ks cs
       let o' <- fe n
       match o' with
       | .cells _ _ => do
         iG n (.OB ks (rowOf es))
         return rowOf es
       | _ => .fail "it leads to itself"
     | _ => .fail "a pointer to what"
   | .eh t k, .eh t' x => do
     aS (Nat.beq t t') "another type"
     celP d k x
   | k, x => aY (jk k x) "no data"
def celsP : Nat -> aJ -> List SV -> Prog (List E)
 | _, .nil, [] => .ret []
 | 0, _, _ => .fail "no data: too deep"
 | d + 1, .cons k r, x :: l => do
   let e <- celP d k x
   let es <- celsP d r l
   return e :: es
 | _, _, _ => .fail "no data: kinds"
end
def Hk : Nat := 60
def Hu (P : Program) (t : TypeId) (T : TypeId) (i : E) (j : Nat) : Prog SV := do
 jX (kY (.il 0) i)
 let d <- p8 P t
 let ti <- inf P t
 let a <- uE T
 match jz d with
 | true => do
   let l <- aY (pd a.1 a.2 i j ti.size) "no such cells"
   return .agg l
 | false => do
   let l <- aY (pd a.1 a.2 i j 1) "no such cells"
   match l with
   | [v] => return v
   | _ => .fail "one cell wanted"
def Fc (P : Program) (t : TypeId) (x : SV) : Prog SV :=
 match x with
 | .pq T i j => Hu P t T i j
 | .ptr n (.c j) => do
   let o <- fe n
   match o with
   | .fwd T i => Hu P t T i j
   | .OB ks e => uj P t (.dC ks e (.il 0) j)
   | _ => uj P t x
 | _ => uj P t x
def jZ : aJ -> Nat -> aJ
 | ks, 0 => ks
 | .nil, _ => .nil
 | .cons _ r, j + 1 => jZ r j
def pE : aJ -> Nat -> aJ
 | _, 0 => .nil
 | .nil, _ => .nil
 | .cons k r, n + 1 => .cons k (pE r n)
def AB (P : Program) (t : TypeId) (T : TypeId) (i : E) (j : Nat) (v : SV) : Prog Unit := do
 jX (kY (.il 0) i)
 let ti <- inf P t
 aS (Nat.beq v.cells.length ti.size) "store: size"
 aS (v.cells.all SV.one) "store: a cell that is none"
 let a <- uE T
 let es <- celsP Hk (pE (jZ a.1 j) v.cells.length) v.cells
 let a' <- uE T
 aS (a.1.same a'.1 && Nat.ble (j + v.cells.length) a.1.len) "store: another arena"
 iG (dI T) (.ar T a.1 (.o2 .fA a'.2 (.o2 .bT i (rowOf (dG a'.2 i j es 0 a.1.len)))))
def bX : aJ -> E -> Nat -> List ch
 | .nil, _, _ => []
 | .cons k r, e, j => .tc k e j :: bX r e (j + 1)
def bB (a b : E) : E :=
 match a, b with
 | .il _, b => b
 | a, .il _ => a
 | a, b => .o2 .fj a b
def om (ks : aJ) : List (List SV) -> Option E
 | [] => some (.il 0)
 | t :: r =>
   match AM ks t, om ks r with
   | some a, some b => some (bB a b)
   | _, _ => none
def jO : aJ -> E -> Nat -> List ch -> Bool
 | .nil, _, _, [] => true
 | .cons k r, e, j, .tc k' e' j' :: cs => k.same k' && e.same e' && Nat.beq j j' && jO r e (j + 1) cs
 | _, _, _, _ => false
def H3 : List ch -> Option E
 | .tc _ e _ :: _ => some e
 | _ => none
def u7 (ks : aJ) (cols : List ch) : Option E :=
 match H3 cols with
 | some e => cond (jO ks e 0 cols) (some e) none
 | none => cond cols.isEmpty (some (.il 0)) none
def Na : List ch -> Option aJ
 | [] => some .nil
 | .tc k _ _ :: r => match Na r with | some ks => some (.cons k ks) | none => none
 | _ => none
def Cx : aJ -> List SV -> Option (List E)
 | .nil, [] => some []
 | .cons k r, x :: l =>
   match jk k x, Cx r l with
   | some e, some es => some (e :: es)
   | _, _ => none
 | _, _ => none
def Fw (P : Program) (t : TypeId) (n : Nat) (i : E) (sz j : Nat) (v : SV) (T : TypeId) (sz' : Nat) (len : E) (cols : List ch) (e : E) : Prog Unit := do
 let ti <- inf P t
 aS (Nat.beq v.cells.length ti.size) "store: size"
 aS (v.cells.all SV.one) "store: a cell that is none"
 aS (Nat.beq sz sz') "another size"
 let ks <- aY (Na cols) "store: a row that is no tree"
 aS (jO ks e 0 cols && Nat.beq ks.len sz && Nat.ble (j + v.cells.length) ks.len) "store: a row that is no tree"
 jX (kY (.il 0) i)
 jX (Kr i len)
 jX (Kr i (fZ .ab e))
 let es <- aY (Cx (pE (jZ ks j) v.cells.length) v.cells) "store: no data"
 iG n (.row T sz len (bX ks (.o2 .fA e (.o2 .bT i (rowOf (dG e i j es 0 ks.len)))) 0) [])
def Bj (P : Program) (t : TypeId) (x v : SV) : Prog Unit :=
 match x with
 | .pq T i j => AB P t T i j v
 | .ptr n (.el i sz j) => do
   let o <- fe n
   match o with
   | .row T sz' len cols tail =>
     match tail, H3 cols with
     | [], some e => Fw P t n i sz j v T sz' len cols e
     | _, _ => qP P t x v
   | _ => qP P t x v
 | .ptr n (.c j) => do
   let o <- fe n
   match o with
   | .fwd T i => AB P t T i j v
   | _ => qP P t x v
 | _ => qP P t x v
def BS (P : Program) (t : TypeId) (x : SV) (f : Nat) : Prog SV :=
 match x with
 | .pq T i j => do
   jX (kY (.il 0) i)
   let u <- p8 P t
   match u with
   | .struct fields => do
     let fd <- aY fields[f]? "no such field"
     let sz <- aY (kf P fd.type) "a field's type"
     match sz with
     | 0 => do
       let a <- uE T
       aS ((byteOfCell P P.depth T (j % P.cellsOf T)).isSome) "a field without cells"
       aS (Nat.blt 0 (P.cellsOf T)) "a field without cells"
       aS ((byteOfCell P P.depth T ((j + fd.offset) % P.cellsOf T)).isSome) "a field without cells"
       return .mS
     | _ + 1 => return .pq T i (j + fd.offset)
   | _ => .fail "fieldAddr: struct"
 | .ptr n (.c j) => do
   let o <- fe n
   match o with
   | .fwd T i => do
     let u <- p8 P t
     match u with
     | .struct fields => do
       let fd <- aY fields[f]? "no such field"
       let sz <- aY (kf P fd.type) "a field's type"
       match sz with
       | 0 => .fail "a field without cells"
       | _ + 1 => return .ptr n (.c (j + fd.offset))
     | _ => .fail "fieldAddr: struct"
   | _ => Bl P t x f
 | _ => Bl P t x f
def yu : TypeDesc -> Option KK
 | .int k => some (.int k)
 | .bool => some .bool
 | .string => some .str
 | _ => none
def lj : KK -> SV -> Bool
 | .int k, .int k' _ => fy k k'
 | .bool, .bool _ => true
 | .str, .str _ => true
 | _, _ => false
def sW : SV -> SV -> Option E
 | .int _ a, .int _ b => some (jK .aX a b)
 | .bool a, .bool b => some (jK .beq a b)
 | .str a, .str b => some (jK .seq a b)
 | _, _ => none
def xB (key : SV) : List (SV × KV) -> Nat -> Prog (Option Nat)
 | [], _ => .ret none
 | (k, _) :: r, i => do
   let e <- aY (sW k key) "a key"
   let t <- BJ e
   match t with
   | true => return some i
   | false => xB key r (i + 1)
def wL : KV -> Prog (Option SV)
 | .no => .ret none
 | .yes x => .ret (some x)
 | .may b x => do
   let t <- BJ b
   match t with
   | true => return some x
   | false => return none
def AF (P : Program) (t : TypeId) : Prog (KK × TypeId) := do
 let u <- p8 P t
 match u with
 | .map kt el => do
   let d <- p8 P kt
   let kk <- aY (yu d) "a map's keys"
   return (kk, el)
 | _ => .fail "a map wanted"
def Ad (P : Program) (t : TypeId) (x key : SV) (commaOk : Bool) : Prog SV := do
 let d <- AF P t
 aS (lj d.1 key) "a key's kind"
 let z <- nQ P d.2
 let give (v : SV) (b : Bool) : Prog SV := cond commaOk (.ret (.fq [v, .bool (.bl b)])) (.ret v)
 match x with
 | .cC => give z false
 | .map n => do
   let o <- fe n
   match o with
   | .map m _ kk _ known => do
     aS (dT kk d.1) "another map"
     let i <- xB key known 0
     match i with
     | some i => do
       let y <- aY known[i]? "no such key"
       let q <- wL y.2
       match q with
       | some v => give v true
       | none => give z false
     | none => do
       aS (Nat.beq m 0) "a key of which nothing is known"
       give z false
   | _ => .fail "no map"
 | _ => .fail "no map"
def Aj (P : Program) (t : TypeId) (x key v : SV) : Prog Unit := do
 let d <- AF P t
 aS (lj d.1 key) "a key's kind"
 match x with
 | .map n => do
   let o <- fe n
   match o with
   | .map m ix kk sz known => do
     aS (dT kk d.1) "another map"
     let i <- xB key known 0
     match i with
     | some i => do
       let y <- aY known[i]? "no such key"
       let q <- wL y.2
       match q with
       | some _ => iG n (.map m ix kk sz (known.set i (y.1, .yes v)))
       | none => iG n (.map m ix kk (z8 sz (.il 1)) (known.set i (y.1, .yes v)))
     | none => do
       aS (Nat.beq m 0) "a key of which nothing is known"
       iG n (.map m ix kk (z8 sz (.il 1)) (known ++ [(key, .yes v)]))
   | _ => .fail "no map"
 | _ => .fail "no map"
def zT (P : Program) (t : TypeId) (x key : SV) : Prog SV := do
 let d <- AF P t
 aS (lj d.1 key) "a key's kind"
 match x with
 | .cC => return .fq []
 | .map n => do
   let o <- fe n
   match o with
   | .map m ix kk sz known => do
     aS (dT kk d.1) "another map"
     let i <- xB key known 0
     match i with
     | some i => do
       let y <- aY known[i]? "no such key"
       let q <- wL y.2
       match q with
       | some _ => do
         iG n (.map m ix kk (PY sz (.il 1)) (known.set i (y.1, .no)))
         return .fq []
       | none => return .fq []
     | none => do
       aS (Nat.beq m 0) "a key of which nothing is known"
       return .fq []
   | _ => .fail "no map"
 | _ => .fail "no map"
def Nj : SV -> Option E
 | .int _ e => some e
 | .bool e => some e
 | .str e => some e
 | _ => none
def sU (ks : aJ) (e i : E) : Nat -> Nat -> Option (List SV)
 | _, 0 => some []
 | j, n + 1 =>
   match ks.get j, sU ks e i (j + 1) n with
   | some k, some l => some (gG k (.o2 (.cell (j + 1)) e i) :: l)
   | _, _ => none
def Nh (a b : Bool) : Bool := cond a b (cond b false true)
def yd (x : SV) : Prog (Option (Nat × KK × Bool × aJ × E × Option Nat)) :=
 match x with
 | .map n => do
   let o <- fe n
   match o with
   | .k7 kk ag ks e it => return some (n, kk, ag, ks, e, it)
   | _ => return none
 | _ => .ret none
def wY (P : Program) (t : TypeId) (x key : SV) (commaOk : Bool) : Prog SV := do
 let m <- yd x
 match m with
 | none => Ad P t x key commaOk
 | some (n, kk, ag, ks, e, it) => do
   let d <- AF P t
   aS (lj d.1 key) "a key's kind"
   aS (dT kk d.1) "another map"
   let z <- nQ P d.2
   let k <- aY (Nj key) "a key"
   let give (v : SV) (b : Bool) : Prog SV := cond commaOk (.ret (.fq [v, .bool (.bl b)])) (.ret v)
   let b <- BJ (kY (.il 0) (.o2 (.mf kk.q) e k))
   match b with
   | true => do
     let l <- aY (sU ks e (.o2 (.mf kk.q) e k) 0 ks.len) "a map's element"
     match ag with
     | true => give (.agg l) true
     | false =>
       match l with
       | [v] => give v true
       | _ => .fail "one cell wanted"
   | false => give z false
def rI (P : Program) (t : TypeId) (x key v : SV) : Prog Unit := do
 let m <- yd x
 match m with
 | none => Aj P t x key v
 | some (n, kk, ag, ks, e, it) => do
   let d <- AF P t
   aS (lj d.1 key) "a key's kind"
   aS (dT kk d.1) "another map"
   aS (Nh ag v.kp) "a map's element"
   aS v.shut "a map's element"
   let k <- aY (Nj key) "a key"
   let es <- celsP Hk ks v.cells
   let o <- fe n
   match o with
   | .k7 kk' ag' ks' e' _ => do
     aS (dT kk kk' && Nh ag ag' && ks.same ks') "another map"
     iG n (.k7 kk ag ks (.o2 (.mp kk.q) e' (.o2 .bT k (rowOf es))) none)
   | _ => .fail "no map"
def xc (P : Program) (t : TypeId) (x key : SV) : Prog SV := do
 let m <- yd x
 match m with
 | none => zT P t x key
 | some (n, kk, ag, ks, e, it) => do
   let d <- AF P t
   aS (lj d.1 key) "a key's kind"
   aS (dT kk d.1) "another map"
   let k <- aY (Nj key) "a key"
   iG n (.k7 kk ag ks (.o2 (.md kk.q) e k) it)
   return .fq []
def Li (P : Program) (t : TypeId) (x : SV) : Prog SV := do
 let m <- yd x
 match m with
 | none => WJ P t x
 | some (_, _, _, _, e, _) => do
   let u <- p8 P t
   match u with
   | .map .. => return .int .i64 (fZ .ab e)
   | _ => .fail "len: not taken"
def s9 (P : Program) (nm : Nat) (t : TypeId) (x : SV) : Prog SV := do
 let u <- p8 P t
 match u, x with
 | .chan _ elem, .int _ (.il (.ofNat k)) => do
   let i <- inf P elem
   aS (Nat.ble k 9223372036854775807 && Nat.ble (i.bytes * k) 281474976710544) "makeChan: a size"
   oc nm (.chan (.bl false))
   return .chan nm
 | _, _ => .fail "makeChan: not taken"
def Fh (x : SV) : Prog SV :=
 match x with
 | .chan n => do
   let o <- fe n
   match o with
   | .chan c => do
     jX (lS c)
     iG n (.chan (.bl true))
     return .fq []
   | _ => .fail "close: no channel"
 | _ => .fail "close: not taken"
def Eu (P : Program) (nm : Nat) (t : TypeId) (x : SV) : Prog SV := do
 let m <- yd x
 match m with
 | some (n, kk, ag, ks, e, _) => do
   let u <- p8 P t
   match u with
   | .map _ _ => do
     oc nm (.pf n kk (.il 0))
     iG n (.k7 kk ag ks e (some nm))
     return .ptr nm (.c 0)
   | _ => .fail "range: no map"
 | none =>
   match x with
   | .map n => do
     let o <- fe n
     match o with
     | .map m ix kk (.il 0) known => do
       let u <- p8 P t
       match u with
       | .map _ _ => do
         oc nm (.pf n kk (.il 0))
         iG n (.k7 kk false (.cons .bool .nil) (.il 0) (some nm))
         return .ptr nm (.c 0)
       | _ => .fail "range: no map"
     | _ => .fail "range"
   | _ => .fail "range"
def Ml : E -> Bool
 | .il _ => true
 | _ => false
def KA (x : SV) : Prog SV :=
 match x with
 | .ptr n (.c 0) => do
   let o <- fe n
   match o with
   | .pf m kk V => do
     let o2 <- fe m
     match o2 with
     | .k7 kk' ag ks e (some n') => do
       aS (Nat.beq n n' && dT kk kk' && Ml e) "next: a map that may have keys"
       return .fq [.bool (.bl false)]
     | _ => .fail "next: no map"
   | _ => .fail "next: no iterator"
 | _ => .fail "next"
def Oo : E -> Option E
 | .o2 .fj _ (.o2 .bT k (.il 0)) => some k
 | .o2 .bT k (.il 0) => some k
 | _ => none
def KK.sv : KK -> E -> SV
 | .int k, e => .int k e
 | .bool, e => .bool e
 | .str, e => .str e
def Gt (x : SV) : Prog SV :=
 match x with
 | .ptr n (.c 0) => do
   let o <- fe n
   match o with
   | .pf m kk V => do
     let k <- aY (Oo V) "entry: no step yet"
     let o2 <- fe m
     match o2 with
     | .k7 kk' ag ks e (some n') => do
       aS (Nat.beq n n' && dT kk kk') "entry: another map"
       let b <- BJ (kY (.il 0) (.o2 (.mf kk.q) e k))
       aS b "entry: gone"
       let l <- aY (sU ks e (.o2 (.mf kk.q) e k) 0 ks.len) "a map's element"
       match ag with
       | true => return .fq [kk.sv k, .agg l]
       | false =>
         match l with
         | [v] => return .fq [kk.sv k, v]
         | _ => .fail "one cell wanted"
     | _ => .fail "entry: no map"
   | _ => .fail "entry: no iterator"
 | _ => .fail "entry"
def xm (P : Program) (nm : Nat) (t : TypeId) (r : Option SV) : Prog SV := do
 let d <- AF P t
 match r with
 | none => do
   oc nm (.map 0 (.il 0) d.1 (.il 0) [])
   return .map nm
 | some (.int _ _) => do
   oc nm (.map 0 (.il 0) d.1 (.il 0) [])
   return .map nm
 | _ => .fail "makeMap: a size"
def BG (P : Program) (t : TypeId) (x : SV) (lo : Option SV) (hi mx : SV) : Prog SV := do
 let u <- p8 P t
 match u, x, lo, hi, mx with
 | .slice elem, .cg ks e, none, .int _ h, .int _ m => do
   let s <- aY (kf P elem) "an element's type"
   aS (Nat.beq s ks.len) "another size"
   aS (h.same m) "slice of three: bounds"
   jX (kY (.il 0) h); jX (kY h (fZ .ab e))
   return .gV ks (yF e (.il 0) h)
 | _, _, _, _, _ => .fail "slice of three: not taken"
def qS (P : Program) (nm : Nat) (t : TypeId) (x y : SV) : Prog SV := do
 let u <- p8 P t
 match u, x, y with
 | .slice elem, .int _ (.il (.ofNat n)), .int _ c => do
   let i <- inf P elem
   aS (Nat.blt 0 i.size) "makeSlice: elements without cells"
   aS (Nat.ble i.bytes 4096) "makeSlice: large elements"
   aS (Nat.ble n 65536) "makeSlice: long"
   jX (kY (.il (n : Nat)) c)
   jX (kY c (.il 2147483648))
   let z <- nQ P elem
   aS (Nat.beq z.cells.length i.size) "makeSlice: the zero's size"
   oc nm (.row elem i.size (.il 0) [] (p5 n z.cells))
   return .sl nm i.size (.il 0) (.il (n : Nat))
 | _, _, _ => .fail "makeSlice: not taken"
def iQ (len : E) (tail : List (List SV)) : E := z8 len (.il (tail.length : Nat))
def OM (sz : Nat) (x : SV) : Prog (List (List SV)) :=
 match x with
 | .cr => .ret []
 | .sl n sz' lo len => do
   aS (Nat.beq sz sz') "append: sizes"
   let o <- fe n
   match o with
   | .row _ sz'' (.il 0) [] tail => do
     aS (Nat.beq sz sz'') "append: sizes"
     let a <- aY (nat? lo) "append: from"
     let k <- aY (nat? len) "append: how many"
     aS (Nat.beq ((tail.drop a).take k).length k) "append: out of range"
     aS (((tail.drop a).take k).flatten.all SV.one) "append: open values"
     return (tail.drop a).take k
   | _ => .fail "append: of what"
 | _ => .fail "append: of what"
def By (P : Program) (nm : Nat) (elem : TypeId) (sz : Nat) (s : SV) (ks : aJ) (e : E) : Prog SV := do
 aS (Nat.beq ks.len sz) "append: sizes"
 let b <- BJ (jK .aX (fZ .ab e) (.il 0))
 match s with
 | .cr =>
   match b with
   | true => return .cr
   | false => do
     jX (kY (fZ .ab e) (.il 2147483648))
     oc nm (.row elem sz (fZ .ab e) (bX ks e 0) [])
     return .sl nm sz (.il 0) (fZ .ab e)
 | .gV ks' a => do
   aS (ks.same ks') "append: kinds"
   match b with
   | true => return .gV ks' a
   | false => do
     jX (kY (fZ .ab (bB a e)) (.il 2147483648))
     oc nm (.row elem sz (fZ .ab (bB a e)) (bX ks (bB a e) 0) [])
     return .sl nm sz (.il 0) (fZ .ab (bB a e))
 | .sl n sz' (.il 0) len => do
   aS (Nat.beq sz' sz) "append: sizes"
   let o <- fe n
   match o with
   | .row T sz2 rl cols tail => do
     aS (Nat.beq sz2 sz) "append: sizes"
     aS (Nat.beq T elem) "append: types"
     let a <- aY (u7 ks cols) "append: a tree to what"
     let tl <- aY (om ks tail) "append: a tree to what"
     jX (jK .aX rl (fZ .ab a))
     jX (jK .aX len (iQ rl tail))
     match b with
     | true => return .sl n sz' (.il 0) len
     | false => do
       jX (kY (fZ .ab (bB (bB a tl) e)) (.il 2147483648))
       iG n .gone
       oc nm (.row elem sz (fZ .ab (bB (bB a tl) e)) (bX ks (bB (bB a tl) e) 0) [])
       return .sl nm sz (.il 0) (fZ .ab (bB (bB a tl) e))
   | _ => .fail "append: a tree to what"
 | _ => .fail "append: a tree to what"
def Uc : SV -> Option (aJ × E)
 | .cg ks e => some (ks, e)
 | _ => none
def Bg (P : Program) (nm : Nat) (t : TypeId) (s x : SV) : Prog SV := do
 let u <- p8 P t
 match u with
 | .slice elem => do
   let i <- inf P elem
   aS (Nat.blt 0 i.size) "append: elements without cells"
   aS (Nat.ble i.bytes 4096) "append: large elements"
   aS (Nat.ble i.size 4096) "append: large elements"
   let z <- nQ P elem
   aS (Nat.beq z.cells.length i.size) "append: the zero's size"
   match Uc x with
   | some (ks, e) => By P nm elem i.size s ks e
   | none => do
   let new <- OM i.size x
   match s with
   | .gV ks a =>
     match new with
     | [] => return .gV ks a
     | _ :: _ => .fail "append: to what"
   | .cr =>
     match new with
     | [] => return .cr
     | _ :: _ => do
       aS (Nat.blt new.length 1048576) "append: many"
       oc nm (.row elem i.size (.il 0) [] new)
       return .sl nm i.size (.il 0) (.il (new.length : Nat))
   | .sl n sz (.il 0) len => do
     aS (Nat.beq sz i.size) "append: sizes"
     let o <- fe n
     match o with
     | .row T sz' rl cols tail => do
       aS (Nat.beq sz' i.size) "append: sizes"
       aS (Nat.beq T elem) "append: types"
       match tail with
       | [] => do
         jX (kY (.il 0) len)
         jX (leS len rl)
         jX (kY len (.il 2147483648))
         aS (Nat.blt new.length 1048576) "append: many"
         iG n .gone
         oc nm (.row elem i.size len cols new)
         return .sl nm i.size (.il 0) (iQ len new)
       | _ :: _ => do
         jX (jK .aX len (iQ rl tail))
         jX (kY (.il 0) rl)
         jX (kY (iQ rl tail) (.il 2147483648))
         aS (Nat.blt new.length 1048576) "append: many"
         iG n .gone
         oc nm (.row elem i.size rl cols (tail ++ new))
         return .sl nm i.size (.il 0) (iQ rl (tail ++ new))
     | _ => .fail "append: to what"
   | _ => .fail "append: to what"
 | _ => .fail "append: slice"
def wV (P : Program) (nm : Nat) (b : Builtin) (argTypes : List TypeId) (args : List SV) : Prog ph :=
 match b, argTypes, args with
 | .len, [t], [x] => do let v <- Li P t x; return .val v
 | .append, [t, u], [s, x] => do
   let d <- p8 P u
   match d with
   | .slice _ => do let v <- Bg P nm t s x; return .val v
   | _ => .fail "append: of a text"
 | .close, _, [x] => do let v <- Fh x; return .val v
 | .delete, [t, _], [x, k] => do let v <- xc P t x k; return .val v
 | .min, _, [.int k a, .int k' b] => return .val (.int k (jK .mn a b))
 | .max, _, [.int k a, .int k' b] => return .val (.int k (jK .mx a b))
 | _, _, _ => .fail "a builtin that is not taken"
def ff (sl : List SV) : Operand -> Option SV
 | .tmp t => some (sl[t]?.getD bH)
 | .const v => ofVal v
 | .global _ => none
 | .func f => some (.fn (.func f) [] [])
def LV (ev : Operand -> Option SV) : List Operand -> Prog (List SV)
 | [] => .ret []
 | x :: r => do
   let v <- aY (ev x) "an operand"
   let l <- LV ev r
   return v :: l
def Ru (ev : Operand -> Option SV) : List (Nat × Operand) -> Prog (List (Nat × SV))
 | [] => .ret []
 | (i, x) :: r => do
   let v <- aY (ev x) "an operand"
   let l <- Ru ev r
   return (i, v) :: l
def Km (ev : Operand -> Option SV) : Option Operand -> Prog (Option SV)
 | none => .ret none
 | some x => do
   let v <- aY (ev x) "an operand"
   return some v
def c8 (ev : Operand -> Option SV) (x : Operand) : Prog SV := aY (ev x) "an operand"
def aaj : Option (FuncId × Bool) -> Bool
 | some (_, true) => true
 | _ => false
def gf (p : Prog SV) : Prog ph := do let v <- p; return .val v
def GU (P : Program) (nm : Nat) (ev : Operand -> Option SV) (c : Call) : Prog ph := do
 let args <- LV ev c.args.toList
 match c.callee with
 | .builtin b => wV P nm b c.argTypes.toList args
 | .invoke r name => do
   let x <- c8 ev r
   LB P x name args
 | .value f => do
   let x <- c8 ev f
   match x with
   | .fn (.func g) first cap => yW P g (first ++ args ++ cap)
   | _ => .fail "a call of what"
def Bk (ev : Operand -> Option SV) (c : Call) : Prog ph := do
 let args <- LV ev c.args.toList
 match c.callee with
 | .value f => do
   let x <- c8 ev f
   match x with
   | .fn (.func g) first cap => return .defer (.func g) cap (first ++ args)
   | _ => .fail "a deferred call of what"
 | _ => .fail "a deferred call of what"
def Xc : Op -> String
 | .makeSlice .. => "makeSlice" | .mapEntry .. => "mapEntry" | .entryStore .. => "entryStore" | .next .. => "next" | .panic _ => "panic" | .slice .. => "slice of three"
 | .sliceToArrayPointer .. => "sliceToArrayPointer" | .ready _ => "ready" | .waits _ => "waits" | .go _ => "go" | .send .. => "send" | .recv .. => "recv" | .select .. => "select" | _ => "an operation"
def lb (P : Program) (nm : Nat) (ev : Operand -> Option SV) (op : Op) : Prog ph :=
 match op with
 | .move x => gf (c8 ev x)
 | .assign x => gf (c8 ev x)
 | .pick c a b => do
   let x <- c8 ev c
   match x with
   | .bool e => do
     let t <- BJ e
     gf (c8 ev (cond t a b))
   | _ => .fail "pick: bool"
 | .alloc t => gf (do let z <- nQ P t; Mb P nm t z)
 | .box t x => gf (do let v <- c8 ev x; Mb P nm t v)
 | .build t parts => gf (do let l <- Ru ev parts.toList; FD P t l)
 | .buildSlice t n parts => gf (do let l <- Ru ev parts.toList; oL P nm t n l)
 | .load t a => gf (do let x <- c8 ev a; Fc P t x)
 | .store t a x => do
   let p <- c8 ev a
   let v <- c8 ev x
   Bj P t p v
   return .skip
 | .nilCheck x => gf (do
   let v <- c8 ev x
   match v with
   | .ptr .. => return v
   | .dC .. => return v
   | .pq _ i _ => do
     jX (kY (.il 0) i)
     return v
   | .mS => return v
   | .eh .. => return v
   | .fn (.func _) _ _ => return v
   | .fn (.method name) [.eh t x] c => do
     let i <- inf P t
     let m <- aY (i.methods.find? (·.name == name)) "no such method"
     aS m.path.isEmpty "a method of an embedded field"
     aS (aaj m.func) "a method's value, of a value"
     return v
   | _ => .fail "nil, or not taken")
 | .binOp o t x y _ => gf (do
   let a <- c8 ev x
   let b <- c8 ev y
   Fu P o t x y a b
   Uy P o t a b)
 | .unOp o _ x => gf (do let v <- c8 ev x; unS o v)
 | .convert s d x => gf (do let v <- c8 ev x; Ns P s d v)
 | .makeInterface t x => gf (do let v <- c8 ev x; Gf P t v)
 | .makeFunc fn first cap => gf (do
   let a <- LV ev first.toList
   let c <- LV ev cap.toList
   return .fn fn a c)
 | .slice t x lo (some hi) (some mx) => gf (do
   let v <- c8 ev x
   let l <- Km ev lo
   let h <- c8 ev hi
   let m <- c8 ev mx
   BG P t v l h m)
 | .slice t x lo hi none => gf (do
   let v <- c8 ev x
   let l <- Km ev lo
   let h <- Km ev hi
   zW P t v l h)
 | .fieldAddr t x f => gf (do let v <- c8 ev x; BS P t v f)
 | .field t x f => gf (do let v <- c8 ev x; F9 P t v f)
 | .indexAddr t x i => gf (do let v <- c8 ev x; let j <- c8 ev i; Et P t v j)
 | .index t x i => gf (do let v <- c8 ev x; let j <- c8 ev i; Gl P t v j)
 | .makeChan t s => gf (do let v <- c8 ev s; s9 P nm t v)
 | .makeMap t r => gf (do let l <- Km ev r; xm P nm t l)
 | .entry x => gf (do let v <- c8 ev x; Gt v)
 | .range t x => gf (do let v <- c8 ev x; Eu P nm t v)
 | .next x false => gf (do let v <- c8 ev x; KA v)
 | .makeSlice t l c => gf (do let x <- c8 ev l; let y <- c8 ev c; qS P nm t x y)
 | .lookup t x i ok => gf (do let v <- c8 ev x; let j <- c8 ev i; wY P t v j ok)
 | .mapUpdate t m k x => do
   let a <- c8 ev m
   let b <- c8 ev k
   let c <- c8 ev x
   rI P t a b c
   return .skip
 | .insert t m k x => do
   let a <- c8 ev m
   let b <- c8 ev k
   let c <- c8 ev x
   rI P t a b c
   return .skip
 | .typeAssert x _ a ok => gf (do let v <- c8 ev x; A9 P v a ok)
 | .extract x i => gf (do
   let v <- c8 ev x
   match v with
   | .fq l => aY l[i]? "extract"
   | _ => .fail "extract")
 | .call c => GU P nm ev c
 | .defer c => Bk ev c
 | op => .fail ("not taken: " ++ Xc op)
end Go.Sx
