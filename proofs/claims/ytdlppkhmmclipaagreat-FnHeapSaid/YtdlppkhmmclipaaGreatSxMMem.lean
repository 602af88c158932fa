/-
  SX, PART 3: what an operation of the model does to symbolic values and the heap of named objects.
-/
import Derived.Test.YtdlppkhmmclipaaGreatSxMCore
namespace Go.Sx
open Go.RowKit
set_option linter.unusedVariables false
inductive mg where
 | c (j : Nat)
 | el (i : E) (sz j : Nat)
 deriving Inhabited, Repr
inductive FE where
 | l (bits : Nat)
 | Tl (e : E)
 | mul (a b : FE)
 deriving Inhabited, Repr
deriving instance Repr for FieldStep, Fn
mutual
inductive DK where
 | int (k : IntKind)
 | bool
 | str
 | sl (ks : aJ)
 | fp (ks : aJ)
 | ei (t : TypeId) (k : DK)
 | nilm
 | ap (T : TypeId)
inductive aJ where
 | nil
 | cons (k : DK) (r : aJ)
end
instance : Inhabited DK := ⟨.bool⟩
instance : Inhabited aJ := ⟨.nil⟩
def aJ.len : aJ -> Nat
 | .nil => 0
 | .cons _ r => r.len + 1
def aJ.get : aJ -> Nat -> Option DK
 | .nil, _ => none
 | .cons k _, 0 => some k
 | .cons _ r, j + 1 => r.get j
structure Fz where
 ob : Nat -> Option Obj
 ar : Nat -> Nat -> Option Nat
instance : CoeFun Fz (fun _ => Nat -> Option Obj) := ⟨Fz.ob⟩
structure Fz.le (a b : Fz) : Prop where
 ob : ∀ c x, a c = some x -> b c = some x
 ar : ∀ T i c, a.ar T i = some c -> b.ar T i = some c
instance {a b : Fz} : CoeFun (Fz.le a b) (fun _ => ∀ c x, a c = some x -> b c = some x) := ⟨Fz.le.ob⟩
theorem Fz.le_refl (a : Fz) : Fz.le a a := ⟨fun _ _ h => h, fun _ _ _ h => h⟩
theorem Fz.le_trans {a b c : Fz} (h : a.le b) (k : b.le c) : a.le c := ⟨fun n p e => k n p (h n p e), fun T i p e => k.ar T i p (h.ar T i p e)⟩
def oM (fz : Fz) (T : Nat) (z : Int) (j : Nat) (v : Value) : Prop := (z < 0 /\ v = .pointer none) \/ (0 <= z /\ ∃ b, fz.ar T z.toNat = some b /\ v = .pointer (some ⟨b, j, none⟩))
theorem oM.mono {fz fz' : Fz} (h : Fz.le fz fz') {T : Nat} {z : Int} {j : Nat} {v : Value} (r : oM fz T z j v) : oM fz' T z j v := by
 rcases r with r | ⟨h0, b, h1, h2⟩
 ·exact .inl r
 ·exact .inr ⟨h0, b, h.ar _ _ _ h1, h2⟩
def cv (fz : Fz) (b j : Nat) : Option Value :=
 match fz b with
 | some (.cells c _ _) => c[j]?
 | _ => none
mutual
def DK.Rel (fz : Fz) : DK -> Dv -> Value -> Prop
 | .int k, d, v => v = .int k d.I
 | .bool, d, v => v = .bool d.B
 | .str, d, v => v = .string d.S
 | .sl ks, d, v => ∃ A cap, v = .slice A d.T.length cap /\ d.T.length <= cap /\ (0 < d.T.length -> ∃ b o, A = some ⟨b, o, none⟩ /\ ∀ i, i < d.T.length -> ks.Rel fz (fun j => d.at i j) (fun j => cv fz b (o + i * ks.len + j)) 0)
 | .fp ks, d, v => ∃ b o, v = .pointer (some ⟨b, o, none⟩) /\ ks.Rel fz (fun j => d.at 0 j) (fun j => cv fz b (o + j)) 0
 | .ei t k, d, v => ∃ y, v = .iface t y /\ k.Rel fz d y
 | .nilm, _, v => v = .map none
 | .ap T, d, v => oM fz T d.I 0 v
def aJ.Rel (fz : Fz) : aJ -> (Nat -> Dv) -> (Nat -> Option Value) -> Nat -> Prop
 | .nil, _, _, _ => True
 | .cons k r, row, cell, j => (∃ v, cell j = some v /\ k.Rel fz (row j) v) /\ r.Rel fz row cell (j + 1)
end
theorem jD {fz fz' : Fz} (h : Fz.le fz fz') {b j : Nat} {v : Value} (hv : cv fz b j = some v) : cv fz' b j = some v := by
 unfold cv at hv ⊢; cases hb : fz b with
 | none => rw [hb] at hv; cases hv
 | some x => rw [hb] at hv; rw [h b x hb]; exact hv
mutual
theorem DK.Rel.mono {fz fz' : Fz} (h : Fz.le fz fz') : ∀ {k : DK} {d : Dv} {v : Value}, k.Rel fz d v -> k.Rel fz' d v
 | .int _, _, _, r => r
 | .bool, _, _, r => r
 | .str, _, _, r => r
 | .sl ks, d, v, r => by
   simp only [DK.Rel] at r ⊢; obtain ⟨A, cap, h1, h2, h3⟩ := r; refine ⟨A, cap, h1, h2, fun hl => ?_⟩; obtain ⟨b, o, h4, h5⟩ := h3 hl; exact ⟨b, o, h4, fun i hi => aJ.Rel.mono h (fun j v hv => jD h hv) (h5 i hi)⟩
 | .fp ks, d, v, r => by
   simp only [DK.Rel] at r ⊢; obtain ⟨b, o, h1, h2⟩ := r; exact ⟨b, o, h1, aJ.Rel.mono h (fun j v hv => jD h hv) h2⟩
 | .ei t k, d, v, r => by
   simp only [DK.Rel] at r ⊢; obtain ⟨y, h1, h2⟩ := r; exact ⟨y, h1, DK.Rel.mono h h2⟩
 | .nilm, _, _, r => r
 | .ap _, _, _, r => by simp only [DK.Rel] at r ⊢; exact r.mono h
theorem aJ.Rel.mono {fz fz' : Fz} (h : Fz.le fz fz') : ∀ {ks : aJ} {row : Nat -> Dv} {cell cell' : Nat -> Option Value} {j : Nat}, (∀ j v, cell j = some v -> cell' j = some v) -> ks.Rel fz row cell j -> ks.Rel fz' row cell' j
 | .nil, _, _, _, _, _, _ => trivial
 | .cons k ks, _, _, _, _, hc, r => by
   simp only [aJ.Rel] at r ⊢; obtain ⟨⟨v, h1, h2⟩, h3⟩ := r; exact ⟨⟨v, hc _ _ h1, DK.Rel.mono h h2⟩, aJ.Rel.mono h hc h3⟩
end
mutual
def DK.same : DK -> DK -> Bool
 | .int .i8, .int .i8 => true
 | .int .i16, .int .i16 => true
 | .int .i32, .int .i32 => true
 | .int .i64, .int .i64 => true
 | .int .u8, .int .u8 => true
 | .int .u16, .int .u16 => true
 | .int .u32, .int .u32 => true
 | .int .u64, .int .u64 => true
 | .bool, .bool => true
 | .str, .str => true
 | .sl a, .sl b => aJ.same a b
 | .fp a, .fp b => aJ.same a b
 | .ei t a, .ei u b => cond (Nat.beq t u) (DK.same a b) false
 | .nilm, .nilm => true
 | .ap a, .ap b => Nat.beq a b
 | _, _ => false
def aJ.same : aJ -> aJ -> Bool
 | .nil, .nil => true
 | .cons a r, .cons b s => cond (DK.same a b) (aJ.same r s) false
 | _, _ => false
end
mutual
theorem DK.ax : ∀ {a b : DK}, a.same b = true -> a = b := by
 intro a b h; cases a with
 | int k => cases b with
   | int l => cases k <;> cases l <;> first | rfl | (simp [DK.same] at h)
   | _ => cases k <;> simp [DK.same] at h
 | bool => cases b <;> first | rfl | (simp [DK.same] at h)
 | str => cases b <;> first | rfl | (simp [DK.same] at h)
 | sl x => cases b with
   | sl y => simp only [DK.same] at h; rw [aJ.ax h]
   | _ => simp [DK.same] at h
 | fp x => cases b with
   | fp y => simp only [DK.same] at h; rw [aJ.ax h]
   | _ => simp [DK.same] at h
 | ei t x => cases b with
   | ei u y =>
     simp only [DK.same] at h; cases h1 : Nat.beq t u with
     | false => rw [h1] at h; cases h
     | true => rw [h1] at h; rw [Nat.eq_of_beq_eq_true h1, DK.ax h]
   | _ => simp [DK.same] at h
 | nilm => cases b <;> first | rfl | (simp [DK.same] at h)
 | ap x => cases b with
   | ap y => simp only [DK.same] at h; rw [Nat.eq_of_beq_eq_true h]
   | _ => simp [DK.same] at h
theorem aJ.ax : ∀ {a b : aJ}, a.same b = true -> a = b := by
 intro a b h; cases a with
 | nil => cases b <;> first | rfl | (simp [aJ.same] at h)
 | cons x r => cases b with
   | nil => simp [aJ.same] at h
   | cons y s =>
     simp only [aJ.same] at h; cases h1 : x.same y with
     | false => rw [h1] at h; cases h
     | true => rw [h1] at h; rw [DK.ax h1, aJ.ax h]
end
theorem DK.Rel.rows {fz : Fz} {ks : aJ} {d d' : Dv} {v : Value} (h : (DK.sl ks).Rel fz d v) (e : d.T = d'.T) : (DK.sl ks).Rel fz d' v := by
 simp only [DK.Rel, Dv.at] at h ⊢; rw [<- e]; exact h
theorem aJ.Rel.get {fz : Fz} : ∀ {ks : aJ} {row : Nat -> Dv} {cell : Nat -> Option Value} {j i : Nat} {k : DK}, ks.Rel fz row cell j -> ks.get i = some k -> ∃ v, cell (j + i) = some v /\ k.Rel fz (row (j + i)) v
 | .nil, _, _, _, i, _, _, h => by simp [aJ.get] at h
 | .cons k r, _, _, j, 0, _, h, hk => by
   simp only [aJ.get, Option.some.injEq] at hk; subst hk; simp only [aJ.Rel] at h; exact h.1
 | .cons k r, _, _, j, i + 1, _, h, hk => by
   simp only [aJ.get] at hk; simp only [aJ.Rel] at h; have := aJ.Rel.get h.2 hk; rw [show j + (i + 1) = j + 1 + i by omega]
   exact this
inductive SV where
 | int (k : IntKind) (e : E)
 | bool (e : E)
 | str (e : E)
 | B7 (e : FE)
 | val (c : Nat) (i : E)
 | fX
 | ptr (n : Nat) (o : mg)
 | ml
 | bO
 | sl (n sz : Nat) (lo len : E)
 | bR (ks : aJ) (e : E)
 | ie (ks : aJ) (e : E)
 | dG (ks : aJ) (e i : E) (j : Nat)
 | oU (T : TypeId) (i : E) (j : Nat)
 | cB
 | map (n : Nat)
 | chan (n : Nat)
 | mL
 | iL
 | fn (f : Fn) (first cap : List SV)
 | dN
 | ei (t : TypeId) (x : SV)
 | agg (l : List SV)
 | fm (l : List SV)
 | top
 | B6 (v : Value)
 deriving Inhabited
structure Pl where
 block : Nat
 base : Nat
 cap : Nat
 nil : Bool
 gh : Option (Nat × List (Value × Nat))
structure ah where
 pl : Nat -> Option Pl
 fz : Fz
instance : CoeFun ah (fun _ => Nat -> Option Pl) := ⟨ah.pl⟩
structure ah.le (ρ ρ' : ah) : Prop where
 pl : ∀ n p, ρ n = some p -> ρ' n = some p
 fz : Fz.le ρ.fz ρ'.fz
instance {ρ ρ' : ah} : CoeFun (ah.le ρ ρ') (fun _ => ∀ n p, ρ n = some p -> ρ' n = some p) := ⟨ah.le.pl⟩
theorem ah.le_refl (ρ : ah) : ρ.le ρ := ⟨fun _ _ h => h, Fz.le_refl _⟩
theorem ah.le_trans {a b c : ah} (h : a.le b) (k : b.le c) : a.le c := ⟨fun n p e => k n p (h n p e), Fz.le_trans h.fz k.fz⟩
@[reducible] def ah.re (ρ : ah) (σ : Nat -> Nat) : ah := ⟨fun n => ρ (σ n), ρ.fz⟩
def mg.den (env : Env) : mg -> Nat
 | .c j => j
 | .el i sz j => (i.den env).I.toNat * sz + j
def FE.den (env : Env) : FE -> Nat
 | .l b => b
 | .Tl e => FloatKind.f64.nearest (e.den env).I
 | .mul a b => (FloatKind.f64.format.mul (a.den env) (b.den env)).getD 0
mutual
def SV.Rel (env : Env) (ρ : ah) : SV -> Value -> Prop
 | .int k e, v => v = .int k (e.den env).I
 | .bool e, v => v = .bool (e.den env).B
 | .str e, v => v = .string (e.den env).S
 | .B7 e, v => v = .float .f64 (e.den env)
 | .val c i, v => v = env.val c (i.den env).I
 | .fX, v => v = .pointer none
 | .ptr n o, v => ∃ p, ρ n = some p /\ v = .pointer (some ⟨p.block, p.base + o.den env, none⟩)
 | .ml, v => ∃ a, v = .pointer (some a)
 | .bO, v => v = .slice none 0 0
 | .sl n sz lo len, v => ∃ p A, ρ n = some p /\ v = .slice A (len.den env).I.toNat (p.cap - (lo.den env).I.toNat) /\
     (A = none ↔ p.nil = true) /\ ((lo.den env).I.toNat < p.cap -> A = some ⟨p.block, p.base + (lo.den env).I.toNat * sz, none⟩) /\
     (lo.den env).I.toNat + (len.den env).I.toNat <= p.cap /\ 0 <= (lo.den env).I
 | .bR ks e, v => (DK.sl ks).Rel ρ.fz (e.den env) v
 | .ie ks e, v => (DK.sl ks).Rel ρ.fz (e.den env) v /\ ∃ A n, v = .slice A n n
 | .dG ks e i j, v => ∃ b o, v = .pointer (some ⟨b, o + j, none⟩) /\ ks.Rel ρ.fz (fun j => (e.den env).at (i.den env).I.toNat j) (fun j => cv ρ.fz b (o + j)) 0
 | .oU T i j, v => oM ρ.fz T (i.den env).I j v
 | .cB, v => v = .map none
 | .map n, v => ∃ p, ρ n = some p /\ v = .map (some p.block)
 | .chan n, v => ∃ p, ρ n = some p /\ v = .chan (some p.block)
 | .mL, v => v = .chan none
 | .iL, v => v = .nilFunc
 | .fn f a c, v => ∃ x y, v = .func f x.toArray y.toArray /\ SV.aF env ρ a x /\ SV.aF env ρ c y
 | .dN, v => v = .nilIface
 | .ei t x, v => ∃ y, v = .iface t y /\ SV.Rel env ρ x y
 | .agg l, v => ∃ x, v = .agg x.toArray /\ SV.aF env ρ l x
 | .fm l, v => ∃ x, v = .tuple x.toArray /\ SV.aF env ρ l x
 | .top, v => True
 | .B6 u, v => v = u
def SV.aF (env : Env) (ρ : ah) : List SV -> List Value -> Prop
 | [], vs => vs = []
 | x :: l, vs => ∃ v r, vs = v :: r /\ SV.Rel env ρ x v /\ SV.aF env ρ l r
end
mutual
theorem SV.Rel.mono {env : Env} {ρ ρ' : ah} (h : ρ.le ρ') : ∀ {x : SV} {v : Value}, x.Rel env ρ v -> x.Rel env ρ' v
 | .int .., _, r => r
 | .bool .., _, r => r
 | .str .., _, r => r
 | .B7 .., _, r => r
 | .val .., _, r => r
 | .fX, _, r => r
 | .ptr .., _, r => by simp only [SV.Rel] at r ⊢; obtain ⟨p, h1, h2⟩ := r; exact ⟨p, h _ _ h1, h2⟩
 | .ml, _, r => r
 | .bO, _, r => r
 | .sl .., _, r => by simp only [SV.Rel] at r ⊢; obtain ⟨p, A, h1, h2⟩ := r; exact ⟨p, A, h _ _ h1, h2⟩
 | .bR .., _, r => by simp only [SV.Rel] at r ⊢; exact DK.Rel.mono h.fz r
 | .ie .., _, r => by simp only [SV.Rel] at r ⊢; exact ⟨DK.Rel.mono h.fz r.1, r.2⟩
 | .dG .., _, r => by simp only [SV.Rel] at r ⊢; obtain ⟨b, o, h1, h2⟩ := r; exact ⟨b, o, h1, aJ.Rel.mono h.fz (fun j v hv => jD h.fz hv) h2⟩
 | .oU .., _, r => by simp only [SV.Rel] at r ⊢; exact r.mono h.fz
 | .cB, _, r => r
 | .map .., _, r => by simp only [SV.Rel] at r ⊢; obtain ⟨p, h1, h2⟩ := r; exact ⟨p, h _ _ h1, h2⟩
 | .chan .., _, r => by simp only [SV.Rel] at r ⊢; obtain ⟨p, h1, h2⟩ := r; exact ⟨p, h _ _ h1, h2⟩
 | .mL, _, r => r
 | .iL, _, r => r
 | .fn .., _, r => by simp only [SV.Rel] at r ⊢; obtain ⟨x, y, h1, h2, h3⟩ := r; exact ⟨x, y, h1, SV.aF.mono h h2, SV.aF.mono h h3⟩
 | .dN, _, r => r
 | .ei .., _, r => by simp only [SV.Rel] at r ⊢; obtain ⟨y, h1, h2⟩ := r; exact ⟨y, h1, SV.Rel.mono h h2⟩
 | .agg .., _, r => by simp only [SV.Rel] at r ⊢; obtain ⟨y, h1, h2⟩ := r; exact ⟨y, h1, SV.aF.mono h h2⟩
 | .fm .., _, r => by simp only [SV.Rel] at r ⊢; obtain ⟨y, h1, h2⟩ := r; exact ⟨y, h1, SV.aF.mono h h2⟩
 | .top, _, r => r
 | .B6 _, _, r => r
theorem SV.aF.mono {env : Env} {ρ ρ' : ah} (h : ρ.le ρ') : ∀ {l : List SV} {vs : List Value}, SV.aF env ρ l vs -> SV.aF env ρ' l vs
 | [], _, r => r
 | x :: l, _, r => by simp only [SV.aF] at r ⊢; obtain ⟨v, q, h1, h2, h3⟩ := r; exact ⟨v, q, h1, SV.Rel.mono h h2, SV.aF.mono h h3⟩
end
theorem SV.aF.length {env : Env} {ρ : ah} : ∀ {l : List SV} {vs : List Value}, SV.aF env ρ l vs -> vs.length = l.length
 | [], _, r => by simp only [SV.aF] at r; subst r; rfl
 | x :: l, _, r => by simp only [SV.aF] at r; obtain ⟨v, q, rfl, _, h⟩ := r; simp [SV.aF.length h]
theorem SV.aF.get {env : Env} {ρ : ah} : ∀ {l : List SV} {vs : List Value} {i : Nat} {x : SV}, SV.aF env ρ l vs -> l[i]? = some x -> ∃ v, vs[i]? = some v /\ x.Rel env ρ v
 | [], _, _, _, _, h => by simp at h
 | y :: l, _, i, x, r, h => by
   simp only [SV.aF] at r; obtain ⟨v, q, rfl, hv, hq⟩ := r; cases i with
   | zero => simp at h; subst h; exact ⟨v, rfl, hv⟩
   | succ i => simp at h; obtain ⟨v', h1, h2⟩ := SV.aF.get hq h; exact ⟨v', by simpa using h1, h2⟩
theorem SV.aF.append {env : Env} {ρ : ah} : ∀ {l m : List SV} {vs ws : List Value}, SV.aF env ρ l vs -> SV.aF env ρ m ws -> SV.aF env ρ (l ++ m) (vs ++ ws)
 | [], _, _, _, r, s => by simp only [SV.aF] at r; subst r; exact s
 | x :: l, _, _, _, r, s => by
   simp only [SV.aF] at r; obtain ⟨v, q, rfl, hv, hq⟩ := r; exact ⟨v, _, rfl, hv, SV.aF.append hq s⟩
theorem SV.aF.take {env : Env} {ρ : ah} : ∀ {l : List SV} {vs : List Value} (n : Nat), SV.aF env ρ l vs -> SV.aF env ρ (l.take n) (vs.take n)
 | [], _, n, r => by simp only [SV.aF] at r; subst r; simp [SV.aF]
 | x :: l, _, n, r => by
   simp only [SV.aF] at r; obtain ⟨v, q, rfl, hv, hq⟩ := r; cases n with
   | zero => simp [SV.aF]
   | succ n => simp only [List.take_succ_cons, SV.aF]; exact ⟨v, _, rfl, hv, SV.aF.take n hq⟩
theorem SV.aF.drop {env : Env} {ρ : ah} : ∀ {l : List SV} {vs : List Value} (n : Nat), SV.aF env ρ l vs -> SV.aF env ρ (l.drop n) (vs.drop n)
 | [], _, n, r => by simp only [SV.aF] at r; subst r; simp [SV.aF]
 | x :: l, _, n, r => by
   cases n with
   | zero => exact r
   | succ n =>
     simp only [SV.aF] at r; obtain ⟨v, q, rfl, hv, hq⟩ := r; exact SV.aF.drop n hq
theorem SV.aF.set {env : Env} {ρ : ah} : ∀ {l : List SV} {vs : List Value} (i : Nat) {x : SV} {v : Value}, SV.aF env ρ l vs -> x.Rel env ρ v -> SV.aF env ρ (l.set i x) (vs.set i v)
 | [], _, n, _, _, r, _ => by simp only [SV.aF] at r; subst r; simp [SV.aF]
 | y :: l, _, i, x, v, r, hx => by
   simp only [SV.aF] at r; obtain ⟨u, q, rfl, hv, hq⟩ := r; cases i with
   | zero => exact ⟨v, q, rfl, hx, hq⟩
   | succ i => exact ⟨u, _, rfl, hv, SV.aF.set i hq hx⟩
def gG : DK -> E -> SV
 | .int k, e => .int k e
 | .bool, e => .bool e
 | .str, e => .str e
 | .sl ks, e => .bR ks e
 | .fp ks, e => .dG ks e (.il 0) 0
 | .ei t k, e => .ei t (gG k e)
 | .nilm, _ => .cB
 | .ap T, e => .oU T e 0
inductive ch where
 | int (k : IntKind) (c : Nat)
 | bool (c : Nat)
 | str (c : Nat)
 | val (c : Nat)
 | bR (ks : aJ) (c : Nat)
 | tc (k : DK) (e : E) (j : Nat)
 deriving Inhabited
def ch.at : ch -> E -> SV
 | .int k c, i => .int k (.fn c i)
 | .bool c, i => .bool (.fn c i)
 | .str c, i => .str (.fn c i)
 | .val c, i => .val c i
 | .bR ks c, i => .bR ks (.fn c i)
 | .tc k e j, i => gG k (.o2 (.cell j) e i)
theorem cQ {env : Env} {ρ : ah} {k : DK} {x : E} {v : Value} : (gG k x).Rel env ρ v ↔ k.Rel ρ.fz (x.den env) v := by
 cases k with
 | fp ks => simp only [gG, SV.Rel, DK.Rel, E.den, Dv.I, Int.toNat_zero, Nat.add_zero]
 | ei t k => simp only [gG, SV.Rel, DK.Rel, cQ (k := k)]
 | _ => simp only [gG, SV.Rel, DK.Rel]
termination_by structural k
inductive KK where
 | int (k : IntKind)
 | bool
 | str
 deriving Inhabited, Repr
def dU : KK -> KK -> Bool
 | .int .i8, .int .i8 | .int .i16, .int .i16 | .int .i32, .int .i32 | .int .i64, .int .i64 | .int .u8, .int .u8 | .int .u16, .int .u16 | .int .u32, .int .u32 | .int .u64, .int .u64 => true
 | .bool, .bool => true
 | .str, .str => true
 | _, _ => false
theorem db {a b : KK} (h : dU a b = true) : a = b := by
 cases a <;> cases b <;> first
  | rfl
  | (rename_i x y; cases x <;> cases y <;> first | rfl | (cases h; done))
  | (cases h; done)
  | (rename_i x; cases x <;> (cases h; done))
def KK.ok : KK -> Value -> Prop
 | .int k, v => ∃ n, v = .int k n
 | .bool, v => ∃ b, v = .bool b
 | .str, v => ∃ s, v = .string s
def KK.dv : KK -> Dv -> Value
 | .int k, d => .int k d.I
 | .bool, d => .bool d.B
 | .str, d => .string d.S
def KK.q : KK -> KQ
 | .int _ => .i
 | .bool => .b
 | .str => .s
def cg : Value -> Value -> Bool
 | .int _ a, .int _ b => a == b
 | .bool a, .bool b => a == b
 | .string a, .string b => a.toList == b.toList
 | _, _ => false
theorem eI {kk : KK} {a b : Value} (ha : kk.ok a) (hb : kk.ok b) : cg a b = true ↔ a = b := by
 cases kk with
 | int k => obtain ⟨x, rfl⟩ := ha; obtain ⟨y, rfl⟩ := hb; simp [cg]
 | bool => obtain ⟨x, rfl⟩ := ha; obtain ⟨y, rfl⟩ := hb; simp [cg]
 | str =>
   obtain ⟨x, rfl⟩ := ha; obtain ⟨y, rfl⟩ := hb; constructor
   ·intro h; have h : (x.toList == y.toList) = true := h; have h2 : x.toList = y.toList := by simpa using h
    have t : ∀ z : ByteArray, z.toList = z.data.toList := fun z => by
     have : z = ByteArray.mk z.data.toList.toArray := by cases z; simp
     rw [this, ByteArray.toList_mk]
    rw [t, t] at h2; have e : x = y := ByteArray.ext (Array.toList_inj.1 h2); rw [e]
   ·intro h; injection h with h; subst h; simp [cg]
def cont : List (Value × Option Value) -> (Value -> Option Value) -> Value -> Option Value
 | [], r, k => r k
 | (k', v) :: l, r, k => cond (cg k' k) v (cont l r k)
def res (env : Env) (m : Nat) (i : Int) : Value -> Option Value :=
 match m with
 | 0 => fun _ => none
 | m => env.mp m i
mutual
def SV.fl (env : Env) : SV -> Option Value
 | .int k e => some (.int k (e.den env).I)
 | .bool e => some (.bool (e.den env).B)
 | .str e => some (.string (e.den env).S)
 | .val c i => some (env.val c (i.den env).I)
 | .fX => some (.pointer none)
 | .bO => some (.slice none 0 0)
 | .dN => some .nilIface
 | .agg l => (SV.fls env l).map fun vs => .agg vs.toArray
 | _ => none
def SV.fls (env : Env) : List SV -> Option (List Value)
 | [] => some []
 | x :: l =>
   match SV.fl env x, SV.fls env l with
   | some v, some vs => some (v :: vs)
   | _, _ => none
end
mutual
theorem SV.fl_ok {env : Env} {ρ : ah} : ∀ {x : SV} {u v : Value}, SV.fl env x = some u -> x.Rel env ρ v -> v = u
 | .int .., _, _, h, r => by simp only [SV.fl, Option.some.injEq] at h; simp only [SV.Rel] at r; rw [r, h]
 | .bool .., _, _, h, r => by simp only [SV.fl, Option.some.injEq] at h; simp only [SV.Rel] at r; rw [r, h]
 | .str .., _, _, h, r => by simp only [SV.fl, Option.some.injEq] at h; simp only [SV.Rel] at r; rw [r, h]
 | .val .., _, _, h, r => by simp only [SV.fl, Option.some.injEq] at h; simp only [SV.Rel] at r; rw [r, h]
 | .fX, _, _, h, r => by simp only [SV.fl, Option.some.injEq] at h; simp only [SV.Rel] at r; rw [r, h]
 | .bO, _, _, h, r => by simp only [SV.fl, Option.some.injEq] at h; simp only [SV.Rel] at r; rw [r, h]
 | .dN, _, _, h, r => by simp only [SV.fl, Option.some.injEq] at h; simp only [SV.Rel] at r; rw [r, h]
 | .agg l, _, _, h, r => by
   simp only [SV.fl, Option.map_eq_some_iff] at h; obtain ⟨vs, h1, h2⟩ := h; simp only [SV.Rel] at r; obtain ⟨us, r1, r2⟩ := r; rw [r1, <- h2, SV.fls_ok h1 r2]
 | .B7 .., _, _, h, _ => by simp [SV.fl] at h
 | .ptr .., _, _, h, _ => by simp [SV.fl] at h
 | .ml, _, _, h, _ => by simp [SV.fl] at h
 | .sl .., _, _, h, _ => by simp [SV.fl] at h
 | .cB, _, _, h, _ => by simp [SV.fl] at h
 | .map .., _, _, h, _ => by simp [SV.fl] at h
 | .chan .., _, _, h, _ => by simp [SV.fl] at h
 | .mL, _, _, h, _ => by simp [SV.fl] at h
 | .iL, _, _, h, _ => by simp [SV.fl] at h
 | .fn .., _, _, h, _ => by simp [SV.fl] at h
 | .ei .., _, _, h, _ => by simp [SV.fl] at h
 | .fm .., _, _, h, _ => by simp [SV.fl] at h
 | .top, _, _, h, _ => by simp [SV.fl] at h
 | .B6 .., _, _, h, _ => by simp [SV.fl] at h
theorem SV.fls_ok {env : Env} {ρ : ah} : ∀ {l : List SV} {us vs : List Value}, SV.fls env l = some us -> SV.aF env ρ l vs -> vs = us
 | [], us, vs, h, r => by simp only [SV.fls, Option.some.injEq] at h; simp only [SV.aF] at r; rw [r, h]
 | x :: l, us, vs, h, r => by
   simp only [SV.fls] at h; split at h
   ·rename_i u us' h1 h2; injection h with h; subst h; simp only [SV.aF] at r; obtain ⟨v, q, rfl, r1, r2⟩ := r; rw [SV.fl_ok h1 r1, SV.fls_ok h2 r2]
   ·cases h
end
inductive KV where
 | no
 | yes (x : SV)
 | may (b : E) (x : SV)
 deriving Inhabited
def Lf (env : Env) : KV -> Option (Option Value)
 | .no => some none
 | .yes x => (SV.fl env x).map some
 | .may b x => (SV.fl env x).map fun v => cond (b.den env).B (some v) none
def Cw (env : Env) : List (SV × KV) -> Option (List (Value × Option Value))
 | [] => some []
 | (k, x) :: l =>
   match SV.fl env k, Lf env x, Cw env l with
   | some a, some b, some r => some ((a, b) :: r)
   | _, _, _ => none
inductive Ob where
 | e (x : E)
 | mp (kk : KK) (m : Nat) (ix : E) (known : List (SV × KV)) (m' : Nat) (ix' : E) (known' : List (SV × KV))
 | t (a b : E)
 | p (a b : E)
def Ob.den (env : Env) : Ob -> Prop
 | .e x => (x.den env).B = true
 | .mp kk m ix known m' ix' known' => ∃ kv kv', Cw env known = some kv /\ Cw env known' = some kv' /\ ∀ k, kk.ok k -> cont kv (res env m (ix.den env).I) k = cont kv' (res env m' (ix'.den env).I) k
 | .t a b => (a.den env).T = (b.den env).T
 | .p a b => (a.den env).T.Perm (b.den env).T
inductive aD where
 | cells (T : TypeId) (cs : List SV)
 | row (T : TypeId) (sz : Nat) (len : E) (cols : List ch) (tail : List (List SV))
 | rk (sz : Nat) (len : E) (cols : List ch)
 | map (m : Nat) (ix : E) (kk : KK) (sz : E) (known : List (SV × KV))
 | ar (T : TypeId) (ks : aJ) (e : E)
 | fwd (T : TypeId) (i : E)
 | NW (ks : aJ) (e : E)
 | ln (kk : KK) (ag : Bool) (ks : aJ) (e : E) (it : Option Nat)
 | oA (m : Nat) (kk : KK) (V : E)
 | sm (T : TypeId) (ks : aJ) (e : E)
 | chan (closed : E)
 | dS
 | gone
 deriving Inhabited
def dL (T : Nat) : Nat := 500000 + T
abbrev aL := Nat -> Option aD
def aA (h : aL) (n : Nat) : Option aD := h n
def bh (h : aL) (n : Nat) (x : aD) : aL := fun k => if k = n then some x else h k
theorem aj (h : aL) (n : Nat) (x : aD) (k : Nat) : aA (bh h n x) k = if k = n then some x else aA h k := rfl
abbrev aR := List (Nat × aD)
def bZ : aR -> Nat -> Option aD
 | [], _ => none
 | (m, o) :: r, n => cond (Nat.beq m n) (some o) (bZ r n)
def BQ : aR -> Nat -> aD -> aR
 | [], n, x => [(n, x)]
 | (m, o) :: r, n, x => cond (Nat.beq m n) ((n, x) :: r) (cond (Nat.blt m n) ((n, x) :: (m, o) :: r) ((m, o) :: BQ r n x))
def bm (c : aR) : aL := fun n => bZ c n
theorem s0 (h : aR) (n : Nat) (x : aD) : bm (BQ h n x) = bh (bm h) n x := by
 funext k
 unfold bm bh
 induction h with
 | nil =>
   unfold BQ bZ bZ
   by_cases e : k = n
   ·subst e; simp
   ·have : Nat.beq n k = false := by rw [Bool.eq_false_iff]; intro h; exact e (Nat.eq_of_beq_eq_true h).symm
    simp [this, e]
 | cons p r ih =>
   obtain ⟨m, o⟩ := p; unfold BQ; cases h1 : Nat.beq m n with
   | true =>
     obtain rfl := Nat.eq_of_beq_eq_true h1; simp only [cond_true, bZ]
     by_cases e : k = m
     ·subst e; simp
     ·have : Nat.beq m k = false := by rw [Bool.eq_false_iff]; intro h; exact e (Nat.eq_of_beq_eq_true h).symm
      simp [this, e]
   | false =>
     have hmn : m ≠ n := fun e => by subst e; simp at h1
     cases h2 : Nat.blt m n with
     | true =>
       simp only [cond_false, cond_true, bZ]
       by_cases e : k = n
       ·subst e; simp
       ·have : Nat.beq n k = false := by rw [Bool.eq_false_iff]; intro h; exact e (Nat.eq_of_beq_eq_true h).symm
        simp [this, e]
     | false =>
       simp only [cond_false, bZ, ih]; cases h3 : Nat.beq m k with
       | true =>
         obtain rfl := Nat.eq_of_beq_eq_true h3; simp [hmn]
       | false => simp
inductive Err where
 | undecided (e : E)
 | msg (s : String)
 deriving Repr
abbrev Ex (α : Type) := Except Err α
inductive Prog (α : Type) : Type where
 | ret (a : α)
 | fail (m : String)
 | get (n : Nat) (k : aD -> Prog α)
 | put (n : Nat) (o : aD) (k : Prog α)
 | vc (e : Ob) (k : Prog α)
 | dec (e : E) (k : Bool -> Prog α)
namespace Prog
def bind {α β : Type} : Prog α -> (α -> Prog β) -> Prog β
 | .ret a, f => f a
 | .fail m, _ => .fail m
 | .get n k, f => .get n fun o => (k o).bind f
 | .put n o k, f => .put n o (k.bind f)
 | .vc e k, f => .vc e (k.bind f)
 | .dec e k, f => .dec e fun b => (k b).bind f
instance : Monad Prog where
 pure := Prog.ret
 bind := Prog.bind
end Prog
structure aH where
 rd : List Nat
 wr : List Nat
 deriving Repr
structure Wx (α : Type) where
 a : α
 h : aR
 vcs : List Ob
 ft : aH
def nG (fs : aa) : Ob -> Option Bool
 | .e x => cq fs x
 | .t a b => cond (a.same b) (some true) none
 | .p a b => cond (a.same b) (some true) none
 | _ => none
theorem vN {env : Env} {fs : aa} (hf : fs.ay env) {o : Ob} (h : nG fs o = some true) : o.den env := by
 cases o with
 | e x => exact qE hf h
 | mp => cases h
 | t a b =>
   simp only [nG] at h; cases hs : a.same b with
   | true => show (a.den env).T = (b.den env).T; rw [E.ax hs]
   | false => rw [hs] at h; cases h
 | p a b =>
   simp only [nG] at h; cases hs : a.same b with
   | true => show (a.den env).T.Perm (b.den env).T; rw [E.ax hs]
   | false => rw [hs] at h; cases h
def Prog.run {α : Type} (fs : aa) : Prog α -> aR -> List Ob -> aH -> Ex (Wx α)
 | .ret a, h, vcs, ft => .ok ⟨a, h, vcs, ft⟩
 | .fail m, _, _, _ => .error (.msg m)
 | .get n k, h, vcs, ft =>
   match bZ h n with
   | some o => (k o).run fs h vcs ⟨n :: ft.rd, ft.wr⟩
   | none => .error (.msg "no such name")
 | .put n o k, h, vcs, ft => k.run fs (BQ h n o) vcs ⟨ft.rd, n :: ft.wr⟩
 | .vc e k, h, vcs, ft =>
   match nG fs e with
   | some true => k.run fs h vcs ft
   | some false => .error (.msg "a condition that is false")
   | none => k.run fs h (e :: vcs) ft
 | .dec e k, h, vcs, ft =>
   match cq fs e with
   | some b => (k b).run fs h vcs ft
   | none => .error (.undecided e)
def Prog.Ev {α : Type} (env : Env) : Prog α -> aL -> α -> aL -> aH -> aH -> Prop
 | .ret a, h, b, h', ft, ft' => a = b /\ h = h' /\ ft = ft'
 | .fail _, _, _, _, _, _ => False
 | .get n k, h, b, h', ft, ft' => ∃ o, aA h n = some o /\ (k o).Ev env h b h' ⟨n :: ft.rd, ft.wr⟩ ft'
 | .put n o k, h, b, h', ft, ft' => k.Ev env (bh h n o) b h' ⟨ft.rd, n :: ft.wr⟩ ft'
 | .vc e k, h, b, h', ft, ft' => e.den env /\ k.Ev env h b h' ft ft'
 | .dec e k, h, b, h', ft, ft' => (k (e.den env).B).Ev env h b h' ft ft'
theorem Prog.Ev.local {α : Type} {env : Env} : ∀ {p : Prog α} {h : aL} {a : α} {h' : aL} {ft ft' : aH}, p.Ev env h a h' ft ft' ->
    ∃ R W, ft' = ⟨R ++ ft.rd, W ++ ft.wr⟩ /\ (∀ n, n ∉ W -> h' n = h n) /\
     ∀ (t : aL) (gt : aH), (∀ n ∈ R, t n = h n) -> ∃ t', p.Ev env t a t' gt ⟨R ++ gt.rd, W ++ gt.wr⟩ /\ ∀ n, t' n = if n ∈ W then h' n else t n
 | .ret a, h, b, h', ft, ft', ⟨h1, h2, h3⟩ => by
   subst h1; subst h2; subst h3; exact ⟨[], [], rfl, fun n _ => rfl, fun t gt _ => ⟨t, ⟨rfl, rfl, rfl⟩, fun n => by simp⟩⟩
 | .fail _, _, _, _, _, _, e => e.elim
 | .get n k, h, b, h', ft, ft', ⟨o, h1, h2⟩ => by
   obtain ⟨R, W, e, hw, hl⟩ := Prog.Ev.local h2; refine ⟨R ++ [n], W, by rw [e]; simp, hw, fun t gt ht => ?_⟩
   obtain ⟨t', g1, g2⟩ := hl t ⟨n :: gt.rd, gt.wr⟩ (fun m hm => ht m (List.mem_append_left _ hm)); refine ⟨t', ⟨o, ?_, by simpa using g1⟩, g2⟩
   show t n = some o; rw [ht n (by simp)]
   exact h1
 | .put n o k, h, b, h', ft, ft', h2 => by
   obtain ⟨R, W, e, hw, hl⟩ := Prog.Ev.local (p := k) h2; refine ⟨R, W ++ [n], by rw [e]; simp, fun m hm => ?_, fun t gt ht => ?_⟩
   ·simp only [List.mem_append, List.mem_singleton, not_or] at hm; rw [hw m hm.1]; show (if m = n then some o else h m) = h m
    rw [if_neg hm.2]
   ·obtain ⟨t', g1, g2⟩ := hl (bh t n o) ⟨gt.rd, n :: gt.wr⟩ (fun m hm => by
      show (if m = n then some o else t m) = (if m = n then some o else h m)
      rw [ht m hm])
    refine ⟨t', by show Prog.Ev env k (bh t n o) b t' ⟨gt.rd, n :: gt.wr⟩ _; simpa using g1, fun m => ?_⟩
    rw [g2 m]
    by_cases hmW : m ∈ W
    ·simp [hmW]
    ·by_cases hmn : m = n
     ·subst hmn; rw [if_neg hmW, if_pos (by simp), hw m hmW]
      simp [bh]
     ·rw [if_neg hmW, if_neg (by simp [hmW, hmn])]
      show (if m = n then some o else t m) = t m
      rw [if_neg hmn]
 | .vc e k, h, b, h', ft, ft', ⟨h1, h2⟩ => by
   obtain ⟨R, W, e, hw, hl⟩ := Prog.Ev.local h2; refine ⟨R, W, e, hw, fun t gt ht => ?_⟩; obtain ⟨t', g1, g2⟩ := hl t gt ht; exact ⟨t', ⟨h1, g1⟩, g2⟩
 | .dec e k, h, b, h', ft, ft', h2 => by
   obtain ⟨R, W, e, hw, hl⟩ := Prog.Ev.local (p := k _) h2; refine ⟨R, W, e, hw, fun t gt ht => ?_⟩; obtain ⟨t', g1, g2⟩ := hl t gt ht; exact ⟨t', g1, g2⟩
def bG : SV := .fm []
mutual
def ofVal : Value -> Option SV
 | .bool b => some (.bool (.bl b))
 | .int k n => some (.int k (.il n))
 | .string s => some (.str (.sl s.data.toList))
 | .float .f64 b => some (.B7 (.l b))
 | .pointer none => some .fX
 | .slice none 0 0 => some .bO
 | .map none => some .cB
 | .chan none => some .mL
 | .nilFunc => some .iL
 | .nilIface => some .dN
 | .func f ⟨[]⟩ ⟨[]⟩ => some (.fn f [] [])
 | .agg ⟨cs⟩ => (ofVals cs).map .agg
 | .tuple ⟨cs⟩ => (ofVals cs).map .fm
 | _ => none
def ofVals : List Value -> Option (List SV)
 | [] => some []
 | v :: r =>
   match ofVal v, ofVals r with
   | some x, some l => some (x :: l)
   | _, _ => none
end
def SV.cells : SV -> List SV
 | .agg l => l
 | x => [x]
def SV.one : SV -> Bool
 | .agg _ => false
 | .fm _ => false
 | .val .. => false
 | .top => false
 | .B6 _ => false
 | _ => true
def SV.shut : SV -> Bool
 | .val .. => false
 | .top => false
 | .B6 _ => false
 | _ => true
def setAt (l : List SV) (j : Nat) (vs : List SV) : List SV := l.take j ++ vs ++ l.drop (j + vs.length)
def aZ {α : Type} (o : Option α) (m : String) : Prog α :=
 match o with
 | some a => .ret a
 | none => .fail m
def eZ (n : Nat) : Prog aD := .get n .ret
def iR (n : Nat) (o : aD) : Prog Unit := .put n o (.ret ())
def j6 (e : E) : Prog Unit := .vc (.e e) (.ret ())
def vcO (o : Ob) : Prog Unit := .vc o (.ret ())
def Bn (e : E) : Prog Bool := .dec e .ret
def aV (b : Bool) (m : String) : Prog Unit := cond b (.ret ()) (.fail m)
def p6 (P : Program) (t : TypeId) : Prog TypeDesc := aZ (P.underlying t) "no type"
def inf (P : Program) (t : TypeId) : Prog TypeInfo := aZ (P.info? t) "no type"
def jQ : TypeDesc -> Bool
 | .struct _ => true
 | .array _ _ => true
 | _ => false
def nL (P : Program) (t : TypeId) : Prog SV := do
 let i <- inf P t
 let z <- aZ i.zero "no zero"
 aZ (ofVal z) "a zero value that is not taken"
def takeN (l : List SV) (j n : Nat) : Prog (List SV) := do
 let r := (l.drop j).take n
 aV (Nat.beq r.length n) "cells out of range"
 return r
def lk (a b : E) : E := jW .le a b
def J6 (a b : E) : E := jW .lt a b
def leS (a b : E) : E := cond (a.same b) (.bl true) (lk a b)
def XN (i len : E) : Prog Unit := do j6 (lk (.il 0) i); j6 (J6 i len)
def nat? : E -> Option Nat
 | .il (.ofNat n) => some n
 | _ => none
def AT (a b : E) : E :=
 match a, b with
 | .il 0, b => b
 | a, .il 0 => a
 | a, b => jW .add a b
def Rh (a b : E) : E :=
 match b with
 | .il 0 => a
 | b => jW .sub a b
theorem jF (env : Env) (a b : E) : ((AT a b).den env).I = (a.den env).I + (b.den env).I := by
 unfold AT; split
 ·show _ = (0 : Int) + _; omega
 ·show _ = _ + (0 : Int); omega
 ·rw [bq]; rfl
theorem xi (env : Env) (a b : E) : ((Rh a b).den env).I = (a.den env).I - (b.den env).I := by
 unfold Rh; split
 ·show _ = _ - (0 : Int); omega
 ·rw [bq]; rfl
def Dd (i : E) : Nat -> Nat -> Prog Nat
 | _, 0 => .fail "an index that is none of those"
 | k, 1 => do
   j6 (jW .aN i (.il (k : Nat)))
   return k
 | k, m + 2 => do
   let t <- Bn (jW .aN i (.il (k : Nat)))
   match t with
   | true => return k
   | false => Dd i (k + 1) (m + 1)
def Wf (i : E) (n : Nat) : Prog Nat :=
 match nat? i with
 | some b => .ret b
 | none => Dd i 0 n
def dj (o : aD) (off : mg) (n : Nat) : Prog (List SV) :=
 match o, off with
 | .cells _ cs, .c j => takeN cs j n
 | .row _ sz len cols tail, .el i sz' j => do
   aV (Nat.beq sz sz') "another size"
   match tail with
   | [] => do
     XN i len
     takeN (cols.map (·.at i)) j n
   | _ => do
     let a <- aZ (nat? len) "a row with news, of no known length"
     let b <- Wf i (a + tail.length)
     match Nat.blt b a with
     | true => takeN (cols.map (·.at i)) j n
     | false => do
       let x <- aZ tail[b - a]? "behind the row"
       takeN x j n
 | .rk sz len cols, .el i sz' j => do
   aV (Nat.beq sz sz') "another size"
   XN i len
   takeN (cols.map (·.at i)) j n
 | _, _ => .fail "no cells there"
def nX (ks : aJ) (e i : E) : Nat -> Nat -> Option (List SV)
 | _, 0 => some []
 | j, n + 1 =>
   match ks.get j, nX ks e i (j + 1) n with
   | some k, some l => some (gG k (jW (.cell j) e i) :: l)
   | _, _ => none
def ua (P : Program) (t : TypeId) (x : SV) : Prog SV :=
 match x with
 | .ptr n off => do
   let d <- p6 P t
   let i <- inf P t
   let o <- eZ n
   match jQ d with
   | true => do
     let l <- dj o off i.size
     return .agg l
   | false => do
     let l <- dj o off 1
     match l with
     | [v] => return v
     | _ => .fail "one cell wanted"
 | .dG ks e i j => do
   let d <- p6 P t
   let n <- inf P t
   match jQ d with
   | true => do
     let l <- aZ (nX ks e i j n.size) "no such cells"
     return .agg l
   | false => do
     let l <- aZ (nX ks e i j 1) "no such cells"
     match l with
     | [v] => return v
     | _ => .fail "one cell wanted"
 | _ => .fail "load: no pointer"
def setCells (o : aD) (off : mg) (vs : List SV) : Prog aD :=
 match o, off with
 | .cells T cs, .c j => do
   aV (Nat.ble (j + vs.length) cs.length) "store: out of range"
   return .cells T (setAt cs j vs)
 | .row T sz len cols tail, .el i sz' j => do
   aV (Nat.beq sz sz') "another size"
   let a <- aZ (nat? len) "store: a row of no known length"
   let b <- aZ (nat? i) "store: an index that is not known"
   aV (Nat.ble a b) "store: into a given row"
   let x <- aZ tail[b - a]? "store: behind the row"
   aV (Nat.ble (j + vs.length) x.length) "store: out of range"
   return .row T sz len cols (tail.set (b - a) (setAt x j vs))
 | _, _ => .fail "store: no cells there"
def qT (P : Program) (t : TypeId) (x v : SV) : Prog Unit :=
 match x with
 | .ptr n off => do
   let i <- inf P t
   aV (Nat.beq v.cells.length i.size) "store: size"
   aV (v.cells.all SV.one) "store: a cell that is none"
   let o <- eZ n
   let o' <- setCells o off v.cells
   iR n o'
 | _ => .fail "store: no pointer"
def n8 (nm : Nat) (o : aD) : Prog Unit := do
 let r <- eZ nm
 match r with
 | .dS => iR nm o
 | _ => .fail "the name is taken"
def KT (P : Program) (nm : Nat) (t : TypeId) (v : SV) : Prog SV := do
 aV v.shut "box: an open value"
 n8 nm (.cells t v.cells)
 return .ptr nm (.c 0)
def zd : List (Nat × SV) -> (Nat -> Option (Nat × Nat)) -> List SV -> Option (List SV)
 | [], _, cs => some cs
 | (i, v) :: r, place, cs =>
   match place i with
   | none => none
   | some (off, size) => cond (v.shut && Nat.beq v.cells.length size && Nat.ble (off + v.cells.length) cs.length) (zd r place (setAt cs off v.cells)) none
def kE (P : Program) (t : TypeId) : Option Nat := (P.info? t).map (·.size)
def gJ (P : Program) : List Field -> Option (List (Nat × Nat))
 | [] => some []
 | f :: r =>
   match kE P f.type, gJ P r with
   | some s, some l => some ((f.offset, s) :: l)
   | _, _ => none
def FC (P : Program) (t : TypeId) (parts : List (Nat × SV)) : Prog SV := do
 let z <- nL P t
 let d <- p6 P t
 match d with
 | .struct fields => do
   let pl <- aZ (gJ P fields.toList) "build: a field's type"
   let cs <- aZ (zd parts (fun i => pl[i]?) z.cells) "build: parts"
   return .agg cs
 | .array _ elem => do
   let s <- aZ (kE P elem) "build: an element's type"
   let cs <- aZ (zd parts (fun i => some (i * s, s)) z.cells) "build: parts"
   return .agg cs
 | _ => .fail "build: struct or array"
def qc {α : Type} (n : Nat) (a : α) : List α :=
 match n with
 | 0 => []
 | n + 1 => a :: qc n a
def CB : List (Nat × SV) -> Nat -> List (List SV) -> Option (List (List SV))
 | [], _, l => some l
 | (i, v) :: r, sz, l => cond (v.shut && Nat.beq v.cells.length sz && Nat.blt i l.length) (CB r sz (l.set i v.cells)) none
def oY (P : Program) (nm : Nat) (t : TypeId) (len : Nat) (parts : List (Nat × SV)) : Prog SV := do
 let d <- p6 P t
 match d with
 | .slice elem => do
   let sz <- aZ (kE P elem) "buildSlice: an element's type"
   aV (Nat.blt 0 sz) "buildSlice: elements without cells"
   aV (Nat.ble (len * sz) 16777216) "buildSlice: too long"
   let z <- nL P elem
   aV (Nat.beq z.cells.length sz) "buildSlice: the zero's size"
   let l <- aZ (CB parts sz (qc len z.cells)) "buildSlice: parts"
   n8 nm (.row elem sz (.il 0) [] l)
   return .sl nm sz (.il 0) (.il (len : Nat))
 | _ => .fail "buildSlice: slice"
def wc : IntKind -> Int
 | .i8 => -128 | .i16 => -32768 | .i32 => -2147483648 | .i64 => -9223372036854775808 | _ => 0
def wi : IntKind -> Int
 | .i8 => 127 | .i16 => 32767 | .i32 => 2147483647 | .i64 => 9223372036854775807
 | .u8 => 255 | .u16 => 65535 | .u32 => 4294967295 | .u64 => 18446744073709551615
def fk : IntKind -> IntKind -> Bool
 | .i8, .i8 | .i16, .i16 | .i32, .i32 | .i64, .i64 | .u8, .u8 | .u16, .u16 | .u32, .u32 | .u64, .u64 => true
 | _, _ => false
def arith (k : IntKind) (e : E) : Prog SV :=
 match e with
 | .il z => .ret (.int k (.il (k.wrap z)))
 | e => do
   j6 (lk (.il (wc k)) e)
   j6 (lk e (.il (wi k)))
   return .int k e
def lS (e : E) : E := gk .not e
def UY (a b : E) : E :=
 match a, b with
 | .bl true, b => b
 | a, .bl true => a
 | .bl false, b => lS b
 | a, .bl false => lS a
 | a, b => jW .beq a b
def G9 (P : Program) (t : TypeId) (cs : List SV) (off : Nat) : Prog SV := do
 let d <- p6 P t
 let i <- inf P t
 match jQ d with
 | true => do
   let l <- takeN cs off i.size
   return .agg l
 | false => aZ cs[off]? "no such cell"
def Wm (a b : E) : E :=
 match a, b with
 | .bl true, b => b
 | a, .bl true => a
 | a, b => jW .and a b
def K7 (P : Program) (rc : TypeId -> SV -> SV -> Prog E) (xs ys : List SV) : List Field -> Prog E
 | [] => .ret (.bl true)
 | f :: r => do
   aV (f.name != "_") "==: a blank field"
   let a <- G9 P f.type xs f.offset
   let b <- G9 P f.type ys f.offset
   let e <- rc f.type a b
   let e2 <- K7 P rc xs ys r
   return Wm e e2
def eqS (P : Program) : Nat -> TypeId -> SV -> SV -> Prog E
 | 0, _, _, _ => .fail "==: too deep"
 | d + 1, t, x, y => do
   let u <- p6 P t
   match u, x, y with
   | .bool, .bool a, .bool b => return UY a b
   | .int _, .int k a, .int k' b => do aV (fk k k') "==: kinds"; return jW .aN a b
   | .string, .str a, .str b => return jW .seq a b
   | .pointer _, .fX, .fX => return .bl true
   | .pointer _, .fX, .ptr .. => return .bl false
   | .pointer _, .ptr .., .fX => return .bl false
   | .pointer _, .fX, .dG .. => return .bl false
   | .pointer _, .dG .., .fX => return .bl false
   | .pointer _, .fX, .ml => return .bl false
   | .pointer _, .ml, .fX => return .bl false
   | .pointer _, .fX, .oU _ i _ => return J6 i (.il 0)
   | .pointer _, .oU _ i _, .fX => return J6 i (.il 0)
   | .interface _, .dN, .dN => return .bl true
   | .interface _, .dN, .ei .. => return .bl false
   | .interface _, .ei .., .dN => return .bl false
   | .slice _, .bO, .bO => return .bl true
   | .map .., .cB, .cB => return .bl true
   | .map .., .cB, .map _ => return .bl false
   | .map .., .map _, .cB => return .bl false
   | .func .., .iL, .iL => return .bl true
   | .func .., .iL, .fn .. => return .bl false
   | .func .., .fn .., .iL => return .bl false
   | .struct fs, .agg xs, .agg ys => do
     aV (!(P.stoodInHeld t)) "==: a type that is stood in for"
     K7 P (eqS P d) xs ys fs.toList
   | _, _, _ => .fail "==: not taken"
def JM : Operand -> Bool
 | .const _ => true
 | _ => false
def SV.iX : SV -> Bool
 | .dN => true
 | _ => false
def SV.kR : SV -> Bool
 | .agg _ => true
 | _ => false
def FX (P : Program) (op : BinOp) (t : TypeId) (x y : Operand) (a b : SV) : Prog Unit :=
 match op with
 | .eql | .neq => do
   aV (a.shut && b.shut) "==: open"
   aV (!(a.kR && b.kR) || !(P.eqGuardType P.depth t)) "==: structs with interfaces"
   aV (JM x || JM y || !(a.iX && b.iX)) "==: two nil interfaces"
 | _ => .ret ()
def Bo : SV -> Bool
 | .bool _ | .fX | .ptr .. | .dG .. | .oU .. | .ml | .dN | .ei .. | .bO | .sl .. | .cB | .map _ | .iL | .fn .. | .agg _ => true
 | _ => false
def YO (P : Program) (op : BinOp) (t : TypeId) (x y : SV) : Prog SV :=
 match op, x, y with
 | .shl, _, _ => .fail "shift"
 | .shr, .int k a, .int _ (.il (.ofNat n)) => do aV (Nat.ble n 7) "shift"; j6 (lk (.il 0) a); return .int k (jW .quo a (.il ((2 ^ n : Nat) : Int)))
 | .add, .int k a, .int k' b => do aV (fk k k') "kinds"; arith k (jW .add a b)
 | .sub, .int k a, .int k' b => do aV (fk k k') "kinds"; arith k (jW .sub a b)
 | .mul, .int k a, .int k' b => do aV (fk k k') "kinds"; arith k (jW .mul a b)
 | .quo, .int k a, .int k' b => do aV (fk k k') "kinds"; j6 (lS (jW .aN b (.il 0))); arith k (jW .quo a b)
 | .rem, .int k a, .int k' b => do aV (fk k k') "kinds"; j6 (lS (jW .aN b (.il 0))); return .int k (jW .rem a b)
 | .eql, .int k a, .int k' b => do aV (fk k k') "kinds"; return .bool (jW .aN a b)
 | .neq, .int k a, .int k' b => do aV (fk k k') "kinds"; return .bool (lS (jW .aN a b))
 | .lss, .int k a, .int k' b => do aV (fk k k') "kinds"; return .bool (jW .lt a b)
 | .leq, .int k a, .int k' b => do aV (fk k k') "kinds"; return .bool (jW .le a b)
 | .gtr, .int k a, .int k' b => do aV (fk k k') "kinds"; return .bool (jW .lt b a)
 | .geq, .int k a, .int k' b => do aV (fk k k') "kinds"; return .bool (jW .le b a)
 | .mul, .B7 (.l c), .B7 (.Tl e) => do j6 (.o1 (.fok c) e); return .B7 (.mul (.l c) (.Tl e))
 | .add, .str a, .str b => do j6 (lk (jW .add (gk .size a) (gk .size b)) (.il 9223372036854775807)); return .str (jW .cat a b)
 | .eql, .str a, .str b => return .bool (jW .seq a b)
 | .neq, .str a, .str b => return .bool (lS (jW .seq a b))
 | .lss, .str a, .str b => return .bool (jW .slt a b)
 | .gtr, .str a, .str b => return .bool (jW .slt b a)
 | .eql, .int .., _ => .fail "=="
 | .neq, .int .., _ => .fail "=="
 | .eql, x, y => do aV (Bo x) "=="; let e <- eqS P 10000 t x y; return .bool e
 | .neq, x, y => do aV (Bo x) "=="; let e <- eqS P 10000 t x y; return .bool (lS e)
 | .geq, .str a, .str b => return .bool (lS (jW .slt a b))
 | .leq, .str a, .str b => return .bool (lS (jW .slt b a))
 | _, _, _ => .fail "an operator that is not taken"
def unS (op : UnOp) (x : SV) : Prog SV :=
 match op, x with
 | .neg, .int k e => arith k (jW .sub (.il 0) e)
 | .not, .bool e => return .bool (lS e)
 | _, _ => .fail "an operator that is not taken"
def K6 (P : Program) (src dst : TypeId) (x : SV) : Prog SV := do
 let s <- p6 P src
 let d <- p6 P dst
 match s, d, x with
 | _, .int k, .int _ e => arith k e
 | _, .float .f64, .int _ e => return .B7 (.Tl e)
 | _, .int .i64, .B7 (.mul (.l c) (.Tl e)) => do j6 (.o1 (.fok c) e); return .int .i64 (.o1 (.fin c) e)
 | _, .string, .str _ => return x
 | .slice e, .string, .sl n _ (.il 0) (.il 1) => do
   let u <- p6 P e
   match u with
   | .int .u8 => do
     let o <- eZ n
     match o with
     | .row _ 1 (.il 0) [] [[.int .u8 c]] => return .str (.o1 .chr c)
     | _ => .fail "a conversion that is not taken"
   | _ => .fail "a conversion that is not taken"
 | _, _, _ => .fail "a conversion that is not taken"
def A2 (P : Program) (t : TypeId) (x : SV) (f : Nat) : Prog SV := do
 let u <- p6 P t
 match u with
 | .struct fields => do
   let fd <- aZ fields[f]? "no such field"
   let sz <- aZ (kE P fd.type) "a field's type"
   match x with
   | .ptr n (.c j) =>
     match sz with
     | 0 => do
       let o <- eZ n
       match o with
       | .cells T cs => do
         aV ((byteOfCell P P.depth T (j % P.cellsOf T)).isSome) "a field without cells"
         aV (Nat.blt 0 (P.cellsOf T)) "a field without cells"
         aV ((byteOfCell P P.depth T ((j + fd.offset) % P.cellsOf T)).isSome) "a field without cells"
         return .ml
       | _ => .fail "a field without cells"
     | _ + 1 => return .ptr n (.c (j + fd.offset))
   | .ptr n (.el i s j) =>
     match sz with
     | 0 => .fail "a field without cells"
     | _ + 1 => return .ptr n (.el i s (j + fd.offset))
   | .dG ks e i j =>
     match sz with
     | 0 => .fail "a field without cells"
     | _ + 1 => return .dG ks e i (j + fd.offset)
   | _ => .fail "fieldAddr: no pointer"
 | _ => .fail "fieldAddr: struct"
def ER (P : Program) (t : TypeId) (x : SV) (f : Nat) : Prog SV := do
 let u <- p6 P t
 match u, x with
 | .struct fields, .agg cs => do
   let fd <- aZ fields[f]? "no such field"
   let d <- p6 P fd.type
   let i <- inf P fd.type
   match jQ d with
   | true => do
     let l <- takeN cs fd.offset i.size
     return .agg l
   | false => aZ cs[fd.offset]? "no such cell"
 | _, _ => .fail "field: struct"
def Gc (P : Program) (t : TypeId) (x ix : SV) : Prog SV := do
 let u <- p6 P t
 match u, x, ix with
 | .slice elem, .sl n sz lo len, .int _ i => do
   let s <- aZ (kE P elem) "an element's type"
   aV (Nat.beq s sz) "another size"
   XN i len
   return .ptr n (.el (AT lo i) sz 0)
 | .slice elem, .bR ks e, .int _ i => do
   let s <- aZ (kE P elem) "an element's type"
   aV (Nat.beq s ks.len) "another size"
   XN i (gk .ab e)
   return .dG ks e i 0
 | .array alen elem, .ptr n (.c j), .int _ i => do
   let s <- aZ (kE P elem) "an element's type"
   let k <- aZ (nat? i) "an array's index that is not known"
   aV (Nat.blt k alen) "an array's index out of range"
   return .ptr n (.c (j + k * s))
 | _, _, _ => .fail "indexAddr: not taken"
def Gm (P : Program) (t : TypeId) (x ix : SV) : Prog SV := do
 let u <- p6 P t
 match u, x, ix with
 | .string, .str s, .int _ i => do
   XN i (gk .size s)
   return .int .u8 (.o2 .byte s i)
 | _, _, _ => .fail "index: not taken"
def qS (dflt : E) : Option SV -> Prog E
 | none => .ret dflt
 | some (.int _ e) => .ret e
 | _ => .fail "slice: bound"
def isZ : E -> Bool
 | .il 0 => true
 | _ => false
def yG (e l h : E) : E := cond (isZ l) (cond (h.same (gk .ab e)) e (.o2 .cJ e h)) (.o2 .nY (cond (h.same (gk .ab e)) e (.o2 .cJ e h)) l)
theorem KJ {env : Env} (e l h : E) : ((yG e l h).den env).T = ((e.den env).T.take (h.den env).I.toNat).drop (l.den env).I.toNat := by
 have h1 : ((cond (h.same (gk .ab e)) e (E.o2 .cJ e h)).den env).T = (e.den env).T.take (h.den env).I.toNat := by
  cases hs : h.same (gk .ab e) with
  | true =>
    have : (h.den env).I = (e.den env).T.length := by rw [E.ax hs, bA]; rfl
    rw [this, Int.toNat_natCast, List.take_length]; rfl
  | false => rfl
 unfold yG; cases hz : isZ l with
 | true =>
   have : (l.den env).I = 0 := by
    unfold isZ at hz; split at hz
    ·rfl
    ·cases hz
   rw [this]; exact h1
 | false =>
   show ((cond (h.same (gk .ab e)) e (E.o2 .cJ e h)).den env).T.drop _ = _; rw [h1]
def BH (P : Program) (t : TypeId) (x : SV) (lo hi : Option SV) : Prog SV := do
 let u <- p6 P t
 let l <- qS (.il 0) lo
 match u, x with
 | .string, .str s => do
   let h <- qS (gk .size s) hi
   j6 (lk (.il 0) l); j6 (lk l h); j6 (lk h (gk .size s))
   return .str (.ext s l h)
 | .slice elem, .sl n sz lo0 len => do
   let s <- aZ (kE P elem) "an element's type"
   aV (Nat.beq s sz) "another size"
   let h <- qS len hi
   j6 (lk (.il 0) l); j6 (lk l h); j6 (lk h len)
   return .sl n sz (AT lo0 l) (Rh h l)
 | .slice elem, .bR ks e => do
   let s <- aZ (kE P elem) "an element's type"
   aV (Nat.beq s ks.len) "another size"
   let h <- qS (gk .ab e) hi
   j6 (lk (.il 0) l); j6 (lk l h); j6 (lk h (gk .ab e))
   return .bR ks (yG e l h)
 | _, _ => .fail "slice: not taken"
def ET (P : Program) (t : TypeId) (x : SV) : Prog SV := do
 let u <- p6 P t
 match u with
 | .interface _ => .fail "makeInterface: concrete type"
 | _ => return .ei t x
def rq (want : Array (String × TypeId)) (got : Array Method) : List String := (want.toList.filter fun (name, sig) => !got.any fun m => m.name == name && m.sig == sig).map (·.1)
def A5 (P : Program) (x : SV) (asserted : TypeId) (commaOk : Bool) : Prog SV := do
 let u <- p6 P asserted
 let no : Prog SV := cond commaOk (do let z <- nL P asserted; return .fm [z, .bool (.bl false)]) (.fail "a type assertion that fails")
 let yes (v : SV) : Prog SV := cond commaOk (.ret (.fm [v, .bool (.bl true)])) (.ret v)
 match u, x with
 | .interface _, .dN => no
 | .interface want, .ei t v => do
   let i <- inf P t
   cond (rq want i.methods).isEmpty (yes x) no
 | _, .dN => no
 | _, .ei t v => cond (Nat.beq t asserted) (yes v) no
 | _, _ => .fail "type assertion: not taken"
inductive oD where
 | val (v : SV)
 | skip
 | call (f : FuncId) (args : List SV)
 | defer (fn : Fn) (cap args : List SV)
 deriving Inhabited
def zF (P : Program) (f : FuncId) (args : List SV) : Prog oD := do
 let fn <- aZ P.funcs[f]? "no such function"
 aV fn.body.isSome "a function without a body"
 return .call f args
def L7 (P : Program) (recv : SV) (name : String) (args : List SV) : Prog oD :=
 match recv with
 | .ei t v => do
   let i <- inf P t
   let m <- aZ (i.methods.find? (·.name == name)) "no such method"
   aV m.path.isEmpty "a method of an embedded field"
   let u <- p6 P t
   match m.func with
   | some (f, ptr) =>
     match u, ptr with
     | .pointer _, true => zF P f (v :: args)
     | .pointer _, false => .fail "a method of a value, by a pointer"
     | _, true => .fail "a pointer's method, of a value"
     | _, false => zF P f (v :: args)
   | none => .fail "an embedded interface's method"
 | _ => .fail "invoke: not taken"
def VM (P : Program) (t : TypeId) (x : SV) : Prog SV := do
 let u <- p6 P t
 match u, x with
 | .string, .str s => return .int .i64 (gk .size s)
 | .array n _, _ => return .int .i64 (.il (n : Nat))
 | .slice _, .bO => return .int .i64 (.il 0)
 | .slice _, .sl n sz lo len => do j6 (lk (.il 0) len); return .int .i64 len
 | .map .., .cB => return .int .i64 (.il 0)
 | .map .., .map n => do
   let o <- eZ n
   match o with
   | .map _ _ _ sz _ => return .int .i64 sz
   | _ => .fail "len: no map"
 | ty, .bR _ e =>
   match ty with
   | .slice _ => return .int .i64 (gk .ab e)
   | _ => .fail "len: not taken"
 | _, _ => .fail "len: not taken"
def yA (a i : E) : E :=
 match i with
 | .il 0 => a
 | i => .o2 .cJ (.o2 .nY a i) (.il 1)
def jh : DK -> SV -> Option E
 | .int k, .int k' e => cond (fk k k') (some e) none
 | .bool, .bool e => some e
 | .str, .str e => some e
 | .sl ks, .bR ks' e => cond (ks.same ks') (some e) none
 | .sl ks, .bO => some (.il 0)
 | .sl ks, .ie ks' e => cond (ks.same ks') (some e) none
 | .fp ks, .dG ks' e i 0 => cond (ks.same ks') (some (yA e i)) none
 | .ei t k, .ei t' x => cond (Nat.beq t t') (jh k x) none
 | .nilm, .cB => some (.il 0)
 | .ap T, .oU T' e 0 => cond (Nat.beq T T') (some e) none
 | .ap _, .fX => some (.il (-1))
 | _, _ => none
def A7 : aJ -> List SV -> Option E
 | .nil, [] => some (.il 0)
 | .cons k r, x :: xs =>
   match jh k x, A7 r xs with
   | some a, some b => some (.o2 .b9 a b)
   | _, _ => none
 | _, _ => none
def rowOf : List E -> E
 | [] => .il 0
 | e :: r => .o2 .b9 e (rowOf r)
def dJ (e i : E) (j : Nat) (es : List E) : Nat -> Nat -> List E
 | _, 0 => []
 | k, n + 1 => (cond (Nat.ble j k) (match es[k - j]? with | some x => x | none => .o2 (.cell k) e i) (.o2 (.cell k) e i)) :: dJ e i j es (k + 1) n
def ue (T : TypeId) : Prog (aJ × E) := do
 let o <- eZ (dL T)
 match o with
 | .ar T' ks e => do
   aV (Nat.beq T T') "another arena"
   return (ks, e)
 | _ => .fail "no arena"
mutual
def celP : Nat -> DK -> SV -> Prog E
 | 0, k, x => aZ (jh k x) "no data"
 | d + 1, k, x =>
   match k, x with
   | .ap T, .ptr n (.c 0) => do
     let o <- eZ n
     match o with
     | .fwd T' i => do
       aV (Nat.beq T T') "another arena"
       return i
     | .cells T' cs => do
       aV (Nat.beq T T') "another arena"
       let a <- ue T
       let es <- celsP d a.1 cs
       let a' <- ue T
       aV (a.1.same a'.1 && Nat.blt 0 a.1.len) "another arena"
       let o' <- eZ n
       match o' with
       | .cells T'' _ => do
         aV (Nat.beq T T'') "another object"
         iR (dL T) (.ar T a.1 (.o2 .fS a'.2 (rowOf es)))
         iR n (.fwd T (gk .ab a'.2))
         return gk .ab a'.2
       | _ => .fail "it leads to itself"
     | _ => .fail "a pointer to what"
   | .fp ks, .ptr n (.c 0) => do
     let o <- eZ n
     match o with
     | .NW ks' e => do
       aV (ks.same ks') "another kind"
       return e
     | .cells _ cs => do
       let es <- celsP d ks cs
       let o' <- eZ n
       match o' with
       | .cells _ _ => do
         iR n (.NW ks (rowOf es))
         return rowOf es
       | _ => .fail "it leads to itself"
     | _ => .fail "a pointer to what"
   | .ei t k, .ei t' x => do
     aV (Nat.beq t t') "another type"
     celP d k x
   | k, x => aZ (jh k x) "no data"
def celsP : Nat -> aJ -> List SV -> Prog (List E)
 | _, .nil, [] => .ret []
 | 0, _, _ => .fail "no data: too deep"
 | d + 1, .cons k r, x :: l => do
   let e <- celP d k x
   let es <- celsP d r l
   return e :: es
 | _, _, _ => .fail "no data: kinds"
end
def HL : Nat := 60
def HA (P : Program) (t : TypeId) (T : TypeId) (i : E) (j : Nat) : Prog SV := do
 j6 (lk (.il 0) i)
 let d <- p6 P t
 let ti <- inf P t
 let a <- ue T
 match jQ d with
 | true => do
   let l <- aZ (nX a.1 a.2 i j ti.size) "no such cells"
   return .agg l
 | false => do
   let l <- aZ (nX a.1 a.2 i j 1) "no such cells"
   match l with
   | [v] => return v
   | _ => .fail "one cell wanted"
def E5 (P : Program) (t : TypeId) (x : SV) : Prog SV :=
 match x with
 | .oU T i j => HA P t T i j
 | .ptr n (.c j) => do
   let o <- eZ n
   match o with
   | .fwd T i => HA P t T i j
   | .NW ks e => ua P t (.dG ks e (.il 0) j)
   | _ => ua P t x
 | _ => ua P t x
def j9 : aJ -> Nat -> aJ
 | ks, 0 => ks
 | .nil, _ => .nil
 | .cons _ r, j + 1 => j9 r j
def pW : aJ -> Nat -> aJ
 | _, 0 => .nil
 | .nil, _ => .nil
 | .cons k r, n + 1 => .cons k (pW r n)
def AO (P : Program) (t : TypeId) (T : TypeId) (i : E) (j : Nat) (v : SV) : Prog Unit := do
 j6 (lk (.il 0) i)
 let ti <- inf P t
 aV (Nat.beq v.cells.length ti.size) "store: size"
 aV (v.cells.all SV.one) "store: a cell that is none"
 let a <- ue T
 let es <- celsP HL (pW (j9 a.1 j) v.cells.length) v.cells
 let a' <- ue T
 aV (a.1.same a'.1 && Nat.ble (j + v.cells.length) a.1.len) "store: another arena"
 iR (dL T) (.ar T a.1 (.o2 .fA a'.2 (.o2 .b9 i (rowOf (dJ a'.2 i j es 0 a.1.len)))))
def b8 : aJ -> E -> Nat -> List ch
 | .nil, _, _ => []
 | .cons k r, e, j => .tc k e j :: b8 r e (j + 1)
def bC (a b : E) : E :=
 match a, b with
 | .il _, b => b
 | a, .il _ => a
 | a, b => .o2 .fS a b
def od (ks : aJ) : List (List SV) -> Option E
 | [] => some (.il 0)
 | t :: r =>
   match A7 ks t, od ks r with
   | some a, some b => some (bC a b)
   | _, _ => none
def jT : aJ -> E -> Nat -> List ch -> Bool
 | .nil, _, _, [] => true
 | .cons k r, e, j, .tc k' e' j' :: cs => k.same k' && e.same e' && Nat.beq j j' && jT r e (j + 1) cs
 | _, _, _, _ => false
def GU : List ch -> Option E
 | .tc _ e _ :: _ => some e
 | _ => none
def vr (ks : aJ) (cols : List ch) : Option E :=
 match GU cols with
 | some e => cond (jT ks e 0 cols) (some e) none
 | none => cond cols.isEmpty (some (.il 0)) none
def LX : List ch -> Option aJ
 | [] => some .nil
 | .tc k _ _ :: r => match LX r with | some ks => some (.cons k ks) | none => none
 | _ => none
def Eb : aJ -> List SV -> Option (List E)
 | .nil, [] => some []
 | .cons k r, x :: l =>
   match jh k x, Eb r l with
   | some e, some es => some (e :: es)
   | _, _ => none
 | _, _ => none
def F9 (P : Program) (t : TypeId) (n : Nat) (i : E) (sz j : Nat) (v : SV) (T : TypeId) (sz' : Nat) (len : E) (cols : List ch) (e : E) : Prog Unit := do
 let ti <- inf P t
 aV (Nat.beq v.cells.length ti.size) "store: size"
 aV (v.cells.all SV.one) "store: a cell that is none"
 aV (Nat.beq sz sz') "another size"
 let ks <- aZ (LX cols) "store: a row that is no tree"
 aV (jT ks e 0 cols && Nat.beq ks.len sz && Nat.ble (j + v.cells.length) ks.len) "store: a row that is no tree"
 j6 (lk (.il 0) i)
 j6 (J6 i len)
 j6 (J6 i (gk .ab e))
 let es <- aZ (Eb (pW (j9 ks j) v.cells.length) v.cells) "store: no data"
 iR n (.row T sz len (b8 ks (.o2 .fA e (.o2 .b9 i (rowOf (dJ e i j es 0 ks.len)))) 0) [])
def Ab (P : Program) (t : TypeId) (x v : SV) : Prog Unit :=
 match x with
 | .oU T i j => AO P t T i j v
 | .ptr n (.el i sz j) => do
   let o <- eZ n
   match o with
   | .row T sz' len cols tail =>
     match tail, GU cols with
     | [], some e => F9 P t n i sz j v T sz' len cols e
     | _, _ => qT P t x v
   | _ => qT P t x v
 | .ptr n (.c j) => do
   let o <- eZ n
   match o with
   | .fwd T i => AO P t T i j v
   | _ => qT P t x v
 | _ => qT P t x v
def AB (P : Program) (t : TypeId) (x : SV) (f : Nat) : Prog SV :=
 match x with
 | .oU T i j => do
   j6 (lk (.il 0) i)
   let u <- p6 P t
   match u with
   | .struct fields => do
     let fd <- aZ fields[f]? "no such field"
     let sz <- aZ (kE P fd.type) "a field's type"
     match sz with
     | 0 => do
       let a <- ue T
       aV ((byteOfCell P P.depth T (j % P.cellsOf T)).isSome) "a field without cells"
       aV (Nat.blt 0 (P.cellsOf T)) "a field without cells"
       aV ((byteOfCell P P.depth T ((j + fd.offset) % P.cellsOf T)).isSome) "a field without cells"
       return .ml
     | _ + 1 => return .oU T i (j + fd.offset)
   | _ => .fail "fieldAddr: struct"
 | .ptr n (.c j) => do
   let o <- eZ n
   match o with
   | .fwd T i => do
     let u <- p6 P t
     match u with
     | .struct fields => do
       let fd <- aZ fields[f]? "no such field"
       let sz <- aZ (kE P fd.type) "a field's type"
       match sz with
       | 0 => .fail "a field without cells"
       | _ + 1 => return .ptr n (.c (j + fd.offset))
     | _ => .fail "fieldAddr: struct"
   | _ => A2 P t x f
 | _ => A2 P t x f
def yC : TypeDesc -> Option KK
 | .int k => some (.int k)
 | .bool => some .bool
 | .string => some .str
 | _ => none
def lP : KK -> SV -> Bool
 | .int k, .int k' _ => fk k k'
 | .bool, .bool _ => true
 | .str, .str _ => true
 | _, _ => false
def te : SV -> SV -> Option E
 | .int _ a, .int _ b => some (jW .aN a b)
 | .bool a, .bool b => some (jW .beq a b)
 | .str a, .str b => some (jW .seq a b)
 | _, _ => none
def xS (key : SV) : List (SV × KV) -> Nat -> Prog (Option Nat)
 | [], _ => .ret none
 | (k, _) :: r, i => do
   let e <- aZ (te k key) "a key"
   let t <- Bn e
   match t with
   | true => return some i
   | false => xS key r (i + 1)
def vG : KV -> Prog (Option SV)
 | .no => .ret none
 | .yes x => .ret (some x)
 | .may b x => do
   let t <- Bn b
   match t with
   | true => return some x
   | false => return none
def Ar (P : Program) (t : TypeId) : Prog (KK × TypeId) := do
 let u <- p6 P t
 match u with
 | .map kt el => do
   let d <- p6 P kt
   let kk <- aZ (yC d) "a map's keys"
   return (kk, el)
 | _ => .fail "a map wanted"
def A3 (P : Program) (t : TypeId) (x key : SV) (commaOk : Bool) : Prog SV := do
 let d <- Ar P t
 aV (lP d.1 key) "a key's kind"
 let z <- nL P d.2
 let give (v : SV) (b : Bool) : Prog SV := cond commaOk (.ret (.fm [v, .bool (.bl b)])) (.ret v)
 match x with
 | .cB => give z false
 | .map n => do
   let o <- eZ n
   match o with
   | .map m _ kk _ known => do
     aV (dU kk d.1) "another map"
     let i <- xS key known 0
     match i with
     | some i => do
       let y <- aZ known[i]? "no such key"
       let q <- vG y.2
       match q with
       | some v => give v true
       | none => give z false
     | none => do
       aV (Nat.beq m 0) "a key of which nothing is known"
       give z false
   | _ => .fail "no map"
 | _ => .fail "no map"
def Aj (P : Program) (t : TypeId) (x key v : SV) : Prog Unit := do
 let d <- Ar P t
 aV (lP d.1 key) "a key's kind"
 match x with
 | .map n => do
   let o <- eZ n
   match o with
   | .map m ix kk sz known => do
     aV (dU kk d.1) "another map"
     let i <- xS key known 0
     match i with
     | some i => do
       let y <- aZ known[i]? "no such key"
       let q <- vG y.2
       match q with
       | some _ => iR n (.map m ix kk sz (known.set i (y.1, .yes v)))
       | none => iR n (.map m ix kk (AT sz (.il 1)) (known.set i (y.1, .yes v)))
     | none => do
       aV (Nat.beq m 0) "a key of which nothing is known"
       iR n (.map m ix kk (AT sz (.il 1)) (known ++ [(key, .yes v)]))
   | _ => .fail "no map"
 | _ => .fail "no map"
def z7 (P : Program) (t : TypeId) (x key : SV) : Prog SV := do
 let d <- Ar P t
 aV (lP d.1 key) "a key's kind"
 match x with
 | .cB => return .fm []
 | .map n => do
   let o <- eZ n
   match o with
   | .map m ix kk sz known => do
     aV (dU kk d.1) "another map"
     let i <- xS key known 0
     match i with
     | some i => do
       let y <- aZ known[i]? "no such key"
       let q <- vG y.2
       match q with
       | some _ => do
         iR n (.map m ix kk (Rh sz (.il 1)) (known.set i (y.1, .no)))
         return .fm []
       | none => return .fm []
     | none => do
       aV (Nat.beq m 0) "a key of which nothing is known"
       return .fm []
   | _ => .fail "no map"
 | _ => .fail "no map"
def Lg : SV -> Option E
 | .int _ e => some e
 | .bool e => some e
 | .str e => some e
 | _ => none
def s9 (ks : aJ) (e i : E) : Nat -> Nat -> Option (List SV)
 | _, 0 => some []
 | j, n + 1 =>
   match ks.get j, s9 ks e i (j + 1) n with
   | some k, some l => some (gG k (.o2 (.cell (j + 1)) e i) :: l)
   | _, _ => none
def Kb (a b : Bool) : Bool := cond a b (cond b false true)
def wV (x : SV) : Prog (Option (Nat × KK × Bool × aJ × E × Option Nat)) :=
 match x with
 | .map n => do
   let o <- eZ n
   match o with
   | .ln kk ag ks e it => return some (n, kk, ag, ks, e, it)
   | _ => return none
 | _ => .ret none
def wO (P : Program) (t : TypeId) (x key : SV) (commaOk : Bool) : Prog SV := do
 let m <- wV x
 match m with
 | none => A3 P t x key commaOk
 | some (n, kk, ag, ks, e, it) => do
   let d <- Ar P t
   aV (lP d.1 key) "a key's kind"
   aV (dU kk d.1) "another map"
   let z <- nL P d.2
   let k <- aZ (Lg key) "a key"
   let give (v : SV) (b : Bool) : Prog SV := cond commaOk (.ret (.fm [v, .bool (.bl b)])) (.ret v)
   let b <- Bn (lk (.il 0) (.o2 (.mf kk.q) e k))
   match b with
   | true => do
     let l <- aZ (s9 ks e (.o2 (.mf kk.q) e k) 0 ks.len) "a map's element"
     match ag with
     | true => give (.agg l) true
     | false =>
       match l with
       | [v] => give v true
       | _ => .fail "one cell wanted"
   | false => give z false
def sH (P : Program) (t : TypeId) (x key v : SV) : Prog Unit := do
 let m <- wV x
 match m with
 | none => Aj P t x key v
 | some (n, kk, ag, ks, e, it) => do
   let d <- Ar P t
   aV (lP d.1 key) "a key's kind"
   aV (dU kk d.1) "another map"
   aV (Kb ag v.kR) "a map's element"
   aV v.shut "a map's element"
   let k <- aZ (Lg key) "a key"
   let es <- celsP HL ks v.cells
   let o <- eZ n
   match o with
   | .ln kk' ag' ks' e' _ => do
     aV (dU kk kk' && Kb ag ag' && ks.same ks') "another map"
     iR n (.ln kk ag ks (.o2 (.mp kk.q) e' (.o2 .b9 k (rowOf es))) none)
   | _ => .fail "no map"
def wb (P : Program) (t : TypeId) (x key : SV) : Prog SV := do
 let m <- wV x
 match m with
 | none => z7 P t x key
 | some (n, kk, ag, ks, e, it) => do
   let d <- Ar P t
   aV (lP d.1 key) "a key's kind"
   aV (dU kk d.1) "another map"
   let k <- aZ (Lg key) "a key"
   iR n (.ln kk ag ks (.o2 (.md kk.q) e k) it)
   return .fm []
def KM (P : Program) (t : TypeId) (x : SV) : Prog SV := do
 let m <- wV x
 match m with
 | none => VM P t x
 | some (_, _, _, _, e, _) => do
   let u <- p6 P t
   match u with
   | .map .. => return .int .i64 (gk .ab e)
   | _ => .fail "len: not taken"
def sU (P : Program) (nm : Nat) (t : TypeId) (x : SV) : Prog SV := do
 let u <- p6 P t
 match u, x with
 | .chan _ elem, .int _ (.il (.ofNat k)) => do
   let i <- inf P elem
   aV (Nat.ble k 9223372036854775807 && Nat.ble (i.bytes * k) 281474976710544) "makeChan: a size"
   n8 nm (.chan (.bl false))
   return .chan nm
 | _, _ => .fail "makeChan: not taken"
def E6 (x : SV) : Prog SV :=
 match x with
 | .chan n => do
   let o <- eZ n
   match o with
   | .chan c => do
     j6 (lS c)
     iR n (.chan (.bl true))
     return .fm []
   | _ => .fail "close: no channel"
 | _ => .fail "close: not taken"
def E3 (P : Program) (nm : Nat) (t : TypeId) (x : SV) : Prog SV := do
 let m <- wV x
 match m with
 | some (n, kk, ag, ks, e, _) => do
   let u <- p6 P t
   match u with
   | .map _ _ => do
     n8 nm (.oA n kk (.il 0))
     iR n (.ln kk ag ks e (some nm))
     return .ptr nm (.c 0)
   | _ => .fail "range: no map"
 | none =>
   match x with
   | .map n => do
     let o <- eZ n
     match o with
     | .map m ix kk (.il 0) known => do
       let u <- p6 P t
       match u with
       | .map _ _ => do
         n8 nm (.oA n kk (.il 0))
         iR n (.ln kk false (.cons .bool .nil) (.il 0) (some nm))
         return .ptr nm (.c 0)
       | _ => .fail "range: no map"
     | _ => .fail "range"
   | _ => .fail "range"
def LU : E -> Bool
 | .il _ => true
 | _ => false
def La (x : SV) : Prog SV :=
 match x with
 | .ptr n (.c 0) => do
   let o <- eZ n
   match o with
   | .oA m kk V => do
     let o2 <- eZ m
     match o2 with
     | .ln kk' ag ks e (some n') => do
       aV (Nat.beq n n' && dU kk kk' && LU e) "next: a map that may have keys"
       return .fm [.bool (.bl false)]
     | _ => .fail "next: no map"
   | _ => .fail "next: no iterator"
 | _ => .fail "next"
def Mv : E -> Option E
 | .o2 .fS _ (.o2 .b9 k (.il 0)) => some k
 | .o2 .b9 k (.il 0) => some k
 | _ => none
def KK.sv : KK -> E -> SV
 | .int k, e => .int k e
 | .bool, e => .bool e
 | .str, e => .str e
def FH (x : SV) : Prog SV :=
 match x with
 | .ptr n (.c 0) => do
   let o <- eZ n
   match o with
   | .oA m kk V => do
     let k <- aZ (Mv V) "entry: no step yet"
     let o2 <- eZ m
     match o2 with
     | .ln kk' ag ks e (some n') => do
       aV (Nat.beq n n' && dU kk kk') "entry: another map"
       let b <- Bn (lk (.il 0) (.o2 (.mf kk.q) e k))
       aV b "entry: gone"
       let l <- aZ (s9 ks e (.o2 (.mf kk.q) e k) 0 ks.len) "a map's element"
       match ag with
       | true => return .fm [kk.sv k, .agg l]
       | false =>
         match l with
         | [v] => return .fm [kk.sv k, v]
         | _ => .fail "one cell wanted"
     | _ => .fail "entry: no map"
   | _ => .fail "entry: no iterator"
 | _ => .fail "entry"
def wK (P : Program) (nm : Nat) (t : TypeId) (r : Option SV) : Prog SV := do
 let d <- Ar P t
 match r with
 | none => do
   n8 nm (.map 0 (.il 0) d.1 (.il 0) [])
   return .map nm
 | some (.int _ _) => do
   n8 nm (.map 0 (.il 0) d.1 (.il 0) [])
   return .map nm
 | _ => .fail "makeMap: a size"
def BN (P : Program) (t : TypeId) (x : SV) (lo : Option SV) (hi mx : SV) : Prog SV := do
 let u <- p6 P t
 match u, x, lo, hi, mx with
 | .slice elem, .bR ks e, none, .int _ h, .int _ m => do
   let s <- aZ (kE P elem) "an element's type"
   aV (Nat.beq s ks.len) "another size"
   aV (h.same m) "slice of three: bounds"
   j6 (lk (.il 0) h); j6 (lk h (gk .ab e))
   return .ie ks (yG e (.il 0) h)
 | _, _, _, _, _ => .fail "slice of three: not taken"
def qL (P : Program) (nm : Nat) (t : TypeId) (x y : SV) : Prog SV := do
 let u <- p6 P t
 match u, x, y with
 | .slice elem, .int _ (.il (.ofNat n)), .int _ c => do
   let i <- inf P elem
   aV (Nat.blt 0 i.size) "makeSlice: elements without cells"
   aV (Nat.ble i.bytes 4096) "makeSlice: large elements"
   aV (Nat.ble n 65536) "makeSlice: long"
   j6 (lk (.il (n : Nat)) c)
   j6 (lk c (.il 2147483648))
   let z <- nL P elem
   aV (Nat.beq z.cells.length i.size) "makeSlice: the zero's size"
   n8 nm (.row elem i.size (.il 0) [] (qc n z.cells))
   return .sl nm i.size (.il 0) (.il (n : Nat))
 | _, _, _ => .fail "makeSlice: not taken"
def iT (len : E) (tail : List (List SV)) : E := AT len (.il (tail.length : Nat))
def Pn (sz : Nat) (x : SV) : Prog (List (List SV)) :=
 match x with
 | .bO => .ret []
 | .sl n sz' lo len => do
   aV (Nat.beq sz sz') "append: sizes"
   let o <- eZ n
   match o with
   | .row _ sz'' (.il 0) [] tail => do
     aV (Nat.beq sz sz'') "append: sizes"
     let a <- aZ (nat? lo) "append: from"
     let k <- aZ (nat? len) "append: how many"
     aV (Nat.beq ((tail.drop a).take k).length k) "append: out of range"
     aV (((tail.drop a).take k).flatten.all SV.one) "append: open values"
     return (tail.drop a).take k
   | _ => .fail "append: of what"
 | _ => .fail "append: of what"
def BU (P : Program) (nm : Nat) (elem : TypeId) (sz : Nat) (s : SV) (ks : aJ) (e : E) : Prog SV := do
 aV (Nat.beq ks.len sz) "append: sizes"
 let b <- Bn (jW .aN (gk .ab e) (.il 0))
 match s with
 | .bO =>
   match b with
   | true => return .bO
   | false => do
     j6 (lk (gk .ab e) (.il 2147483648))
     n8 nm (.row elem sz (gk .ab e) (b8 ks e 0) [])
     return .sl nm sz (.il 0) (gk .ab e)
 | .ie ks' a => do
   aV (ks.same ks') "append: kinds"
   match b with
   | true => return .ie ks' a
   | false => do
     j6 (lk (gk .ab (bC a e)) (.il 2147483648))
     n8 nm (.row elem sz (gk .ab (bC a e)) (b8 ks (bC a e) 0) [])
     return .sl nm sz (.il 0) (gk .ab (bC a e))
 | .sl n sz' (.il 0) len => do
   aV (Nat.beq sz' sz) "append: sizes"
   let o <- eZ n
   match o with
   | .row T sz2 rl cols tail => do
     aV (Nat.beq sz2 sz) "append: sizes"
     aV (Nat.beq T elem) "append: types"
     let a <- aZ (vr ks cols) "append: a tree to what"
     let tl <- aZ (od ks tail) "append: a tree to what"
     j6 (jW .aN rl (gk .ab a))
     j6 (jW .aN len (iT rl tail))
     match b with
     | true => return .sl n sz' (.il 0) len
     | false => do
       j6 (lk (gk .ab (bC (bC a tl) e)) (.il 2147483648))
       iR n .gone
       n8 nm (.row elem sz (gk .ab (bC (bC a tl) e)) (b8 ks (bC (bC a tl) e) 0) [])
       return .sl nm sz (.il 0) (gk .ab (bC (bC a tl) e))
   | _ => .fail "append: a tree to what"
 | _ => .fail "append: a tree to what"
def TD : SV -> Option (aJ × E)
 | .bR ks e => some (ks, e)
 | _ => none
def An (P : Program) (nm : Nat) (t : TypeId) (s x : SV) : Prog SV := do
 let u <- p6 P t
 match u with
 | .slice elem => do
   let i <- inf P elem
   aV (Nat.blt 0 i.size) "append: elements without cells"
   aV (Nat.ble i.bytes 4096) "append: large elements"
   aV (Nat.ble i.size 4096) "append: large elements"
   let z <- nL P elem
   aV (Nat.beq z.cells.length i.size) "append: the zero's size"
   match TD x with
   | some (ks, e) => BU P nm elem i.size s ks e
   | none => do
   let new <- Pn i.size x
   match s with
   | .ie ks a =>
     match new with
     | [] => return .ie ks a
     | _ :: _ => .fail "append: to what"
   | .bO =>
     match new with
     | [] => return .bO
     | _ :: _ => do
       aV (Nat.blt new.length 1048576) "append: many"
       n8 nm (.row elem i.size (.il 0) [] new)
       return .sl nm i.size (.il 0) (.il (new.length : Nat))
   | .sl n sz (.il 0) len => do
     aV (Nat.beq sz i.size) "append: sizes"
     let o <- eZ n
     match o with
     | .row T sz' rl cols tail => do
       aV (Nat.beq sz' i.size) "append: sizes"
       aV (Nat.beq T elem) "append: types"
       match tail with
       | [] => do
         j6 (lk (.il 0) len)
         j6 (leS len rl)
         j6 (lk len (.il 2147483648))
         aV (Nat.blt new.length 1048576) "append: many"
         iR n .gone
         n8 nm (.row elem i.size len cols new)
         return .sl nm i.size (.il 0) (iT len new)
       | _ :: _ => do
         j6 (jW .aN len (iT rl tail))
         j6 (lk (.il 0) rl)
         j6 (lk (iT rl tail) (.il 2147483648))
         aV (Nat.blt new.length 1048576) "append: many"
         iR n .gone
         n8 nm (.row elem i.size rl cols (tail ++ new))
         return .sl nm i.size (.il 0) (iT rl (tail ++ new))
     | _ => .fail "append: to what"
   | _ => .fail "append: to what"
 | _ => .fail "append: slice"
def wx (P : Program) (nm : Nat) (b : Builtin) (argTypes : List TypeId) (args : List SV) : Prog oD :=
 match b, argTypes, args with
 | .len, [t], [x] => do let v <- KM P t x; return .val v
 | .append, [t, u], [s, x] => do
   let d <- p6 P u
   match d with
   | .slice _ => do let v <- An P nm t s x; return .val v
   | _ => .fail "append: of a text"
 | .close, _, [x] => do let v <- E6 x; return .val v
 | .delete, [t, _], [x, k] => do let v <- wb P t x k; return .val v
 | .min, _, [.int k a, .int k' b] => return .val (.int k (jW .mn a b))
 | .max, _, [.int k a, .int k' b] => return .val (.int k (jW .mx a b))
 | _, _, _ => .fail "a builtin that is not taken"
def fe (sl : List SV) : Operand -> Option SV
 | .tmp t => some (sl[t]?.getD bG)
 | .const v => ofVal v
 | .global _ => none
 | .func f => some (.fn (.func f) [] [])
def Mw (ev : Operand -> Option SV) : List Operand -> Prog (List SV)
 | [] => .ret []
 | x :: r => do
   let v <- aZ (ev x) "an operand"
   let l <- Mw ev r
   return v :: l
def PF (ev : Operand -> Option SV) : List (Nat × Operand) -> Prog (List (Nat × SV))
 | [] => .ret []
 | (i, x) :: r => do
   let v <- aZ (ev x) "an operand"
   let l <- PF ev r
   return (i, v) :: l
def J5 (ev : Operand -> Option SV) : Option Operand -> Prog (Option SV)
 | none => .ret none
 | some x => do
   let v <- aZ (ev x) "an operand"
   return some v
def c8 (ev : Operand -> Option SV) (x : Operand) : Prog SV := aZ (ev x) "an operand"
def aa6 : Option (FuncId × Bool) -> Bool
 | some (_, true) => true
 | _ => false
def gm (p : Prog SV) : Prog oD := do let v <- p; return .val v
def Gp (P : Program) (nm : Nat) (ev : Operand -> Option SV) (c : Call) : Prog oD := do
 let args <- Mw ev c.args.toList
 match c.callee with
 | .builtin b => wx P nm b c.argTypes.toList args
 | .invoke r name => do
   let x <- c8 ev r
   L7 P x name args
 | .value f => do
   let x <- c8 ev f
   match x with
   | .fn (.func g) first cap => zF P g (first ++ args ++ cap)
   | _ => .fail "a call of what"
def zZ (ev : Operand -> Option SV) (c : Call) : Prog oD := do
 let args <- Mw ev c.args.toList
 match c.callee with
 | .value f => do
   let x <- c8 ev f
   match x with
   | .fn (.func g) first cap => return .defer (.func g) cap (first ++ args)
   | _ => .fail "a deferred call of what"
 | _ => .fail "a deferred call of what"
def Xx : Op -> String
 | .makeSlice .. => "makeSlice" | .mapEntry .. => "mapEntry" | .entryStore .. => "entryStore" | .next .. => "next" | .panic _ => "panic" | .slice .. => "slice of three"
 | .sliceToArrayPointer .. => "sliceToArrayPointer" | .ready _ => "ready" | .waits _ => "waits" | .go _ => "go" | .send .. => "send" | .recv .. => "recv" | .select .. => "select" | _ => "an operation"
def lj (P : Program) (nm : Nat) (ev : Operand -> Option SV) (op : Op) : Prog oD :=
 match op with
 | .move x => gm (c8 ev x)
 | .assign x => gm (c8 ev x)
 | .pick c a b => do
   let x <- c8 ev c
   match x with
   | .bool e => do
     let t <- Bn e
     gm (c8 ev (cond t a b))
   | _ => .fail "pick: bool"
 | .alloc t => gm (do let z <- nL P t; KT P nm t z)
 | .box t x => gm (do let v <- c8 ev x; KT P nm t v)
 | .build t parts => gm (do let l <- PF ev parts.toList; FC P t l)
 | .buildSlice t n parts => gm (do let l <- PF ev parts.toList; oY P nm t n l)
 | .load t a => gm (do let x <- c8 ev a; E5 P t x)
 | .store t a x => do
   let p <- c8 ev a
   let v <- c8 ev x
   Ab P t p v
   return .skip
 | .nilCheck x => gm (do
   let v <- c8 ev x
   match v with
   | .ptr .. => return v
   | .dG .. => return v
   | .oU _ i _ => do
     j6 (lk (.il 0) i)
     return v
   | .ml => return v
   | .ei .. => return v
   | .fn (.func _) _ _ => return v
   | .fn (.method name) [.ei t x] c => do
     let i <- inf P t
     let m <- aZ (i.methods.find? (·.name == name)) "no such method"
     aV m.path.isEmpty "a method of an embedded field"
     aV (aa6 m.func) "a method's value, of a value"
     return v
   | _ => .fail "nil, or not taken")
 | .binOp o t x y _ => gm (do
   let a <- c8 ev x
   let b <- c8 ev y
   FX P o t x y a b
   YO P o t a b)
 | .unOp o _ x => gm (do let v <- c8 ev x; unS o v)
 | .convert s d x => gm (do let v <- c8 ev x; K6 P s d v)
 | .makeInterface t x => gm (do let v <- c8 ev x; ET P t v)
 | .makeFunc fn first cap => gm (do
   let a <- Mw ev first.toList
   let c <- Mw ev cap.toList
   return .fn fn a c)
 | .slice t x lo (some hi) (some mx) => gm (do
   let v <- c8 ev x
   let l <- J5 ev lo
   let h <- c8 ev hi
   let m <- c8 ev mx
   BN P t v l h m)
 | .slice t x lo hi none => gm (do
   let v <- c8 ev x
   let l <- J5 ev lo
   let h <- J5 ev hi
   BH P t v l h)
 | .fieldAddr t x f => gm (do let v <- c8 ev x; AB P t v f)
 | .field t x f => gm (do let v <- c8 ev x; ER P t v f)
 | .indexAddr t x i => gm (do let v <- c8 ev x; let j <- c8 ev i; Gc P t v j)
 | .index t x i => gm (do let v <- c8 ev x; let j <- c8 ev i; Gm P t v j)
 | .makeChan t s => gm (do let v <- c8 ev s; sU P nm t v)
 | .makeMap t r => gm (do let l <- J5 ev r; wK P nm t l)
 | .entry x => gm (do let v <- c8 ev x; FH v)
 | .range t x => gm (do let v <- c8 ev x; E3 P nm t v)
 | .next x false => gm (do let v <- c8 ev x; La v)
 | .makeSlice t l c => gm (do let x <- c8 ev l; let y <- c8 ev c; qL P nm t x y)
 | .lookup t x i ok => gm (do let v <- c8 ev x; let j <- c8 ev i; wO P t v j ok)
 | .mapUpdate t m k x => do
   let a <- c8 ev m
   let b <- c8 ev k
   let c <- c8 ev x
   sH P t a b c
   return .skip
 | .insert t m k x => do
   let a <- c8 ev m
   let b <- c8 ev k
   let c <- c8 ev x
   sH P t a b c
   return .skip
 | .typeAssert x _ a ok => gm (do let v <- c8 ev x; A5 P v a ok)
 | .extract x i => gm (do
   let v <- c8 ev x
   match v with
   | .fm l => aZ l[i]? "extract"
   | _ => .fail "extract")
 | .call c => Gp P nm ev c
 | .defer c => zZ ev c
 | op => .fail ("not taken: " ++ Xx op)
end Go.Sx
