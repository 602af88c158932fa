/-
  SX, PART 3: what an operation of the model does to symbolic values and the heap of named objects.
-/
import Derived.Test.YtdlppkhmmclipaaGreatSxMCore
namespace Go.Sx
open Go.RowKit
set_option linter.unusedVariables false
inductive mh where
 | c (j : Nat)
 | el (i : E) (sz j : Nat)
 deriving Inhabited, Repr
inductive FE where
 | l (bits : Nat)
 | SU (e : E)
 | mul (a b : FE)
 deriving Inhabited, Repr
deriving instance Repr for FieldStep, Fn
mutual
inductive DK where
 | int (k : IntKind)
 | bool
 | str
 | sl (ks : aJ)
 | fp (ks : aJ)
 | ei (t : TypeId) (k : DK)
 | nilm
 | ap (T : TypeId)
inductive aJ where
 | nil
 | cons (k : DK) (r : aJ)
end
instance : Inhabited DK := ⟨.bool⟩
instance : Inhabited aJ := ⟨.nil⟩
def aJ.len : aJ -> Nat
 | .nil => 0
 | .cons _ r => r.len + 1
def aJ.get : aJ -> Nat -> Option DK
 | .nil, _ => none
 | .cons k _, 0 => some k
 | .cons _ r, j + 1 => r.get j
structure Fz where
 ob : Nat -> Option Obj
 ar : Nat -> Nat -> Option Nat
instance : CoeFun Fz (fun _ => Nat -> Option Obj) := ⟨Fz.ob⟩
structure Fz.le (a b : Fz) : Prop where
 ob : ∀ c x, a c = some x -> b c = some x
 ar : ∀ T i c, a.ar T i = some c -> b.ar T i = some c
instance {a b : Fz} : CoeFun (Fz.le a b) (fun _ => ∀ c x, a c = some x -> b c = some x) := ⟨Fz.le.ob⟩
theorem Fz.le_refl (a : Fz) : Fz.le a a := ⟨fun _ _ h => h, fun _ _ _ h => h⟩
theorem Fz.le_trans {a b c : Fz} (h : a.le b) (k : b.le c) : a.le c := ⟨fun n p e => k n p (h n p e), fun T i p e => k.ar T i p (h.ar T i p e)⟩
def o8 (fz : Fz) (T : Nat) (z : Int) (j : Nat) (v : Value) : Prop := (z < 0 /\ v = .pointer none) \/ (0 <= z /\ ∃ b, fz.ar T z.toNat = some b /\ v = .pointer (some ⟨b, j, none⟩))
theorem o8.mono {fz fz' : Fz} (h : Fz.le fz fz') {T : Nat} {z : Int} {j : Nat} {v : Value} (r : o8 fz T z j v) : o8 fz' T z j v := by
 rcases r with r | ⟨h0, b, h1, h2⟩
 ·exact .inl r
 ·exact .inr ⟨h0, b, h.ar _ _ _ h1, h2⟩
def cu (fz : Fz) (b j : Nat) : Option Value :=
 match fz b with
 | some (.cells c _ _) => c[j]?
 | _ => none
mutual
def DK.Rel (fz : Fz) : DK -> Dv -> Value -> Prop
 | .int k, d, v => v = .int k d.I
 | .bool, d, v => v = .bool d.B
 | .str, d, v => v = .string d.S
 | .sl ks, d, v => ∃ A cap, v = .slice A d.T.length cap /\ d.T.length <= cap /\ (0 < d.T.length -> ∃ b o, A = some ⟨b, o, none⟩ /\ ∀ i, i < d.T.length -> ks.Rel fz (fun j => d.at i j) (fun j => cu fz b (o + i * ks.len + j)) 0)
 | .fp ks, d, v => ∃ b o, v = .pointer (some ⟨b, o, none⟩) /\ ks.Rel fz (fun j => d.at 0 j) (fun j => cu fz b (o + j)) 0
 | .ei t k, d, v => ∃ y, v = .iface t y /\ k.Rel fz d y
 | .nilm, _, v => v = .map none
 | .ap T, d, v => o8 fz T d.I 0 v
def aJ.Rel (fz : Fz) : aJ -> (Nat -> Dv) -> (Nat -> Option Value) -> Nat -> Prop
 | .nil, _, _, _ => True
 | .cons k r, row, cell, j => (∃ v, cell j = some v /\ k.Rel fz (row j) v) /\ r.Rel fz row cell (j + 1)
end
theorem jv {fz fz' : Fz} (h : Fz.le fz fz') {b j : Nat} {v : Value} (hv : cu fz b j = some v) : cu fz' b j = some v := by
 unfold cu at hv ⊢; cases hb : fz b with
 | none => rw [hb] at hv; cases hv
 | some x => rw [hb] at hv; rw [h b x hb]; exact hv
mutual
theorem DK.Rel.mono {fz fz' : Fz} (h : Fz.le fz fz') : ∀ {k : DK} {d : Dv} {v : Value}, k.Rel fz d v -> k.Rel fz' d v
 | .int _, _, _, r => r
 | .bool, _, _, r => r
 | .str, _, _, r => r
 | .sl ks, d, v, r => by
   simp only [DK.Rel] at r ⊢; obtain ⟨A, cap, h1, h2, h3⟩ := r; refine ⟨A, cap, h1, h2, fun hl => ?_⟩; obtain ⟨b, o, h4, h5⟩ := h3 hl; exact ⟨b, o, h4, fun i hi => aJ.Rel.mono h (fun j v hv => jv h hv) (h5 i hi)⟩
 | .fp ks, d, v, r => by
   simp only [DK.Rel] at r ⊢; obtain ⟨b, o, h1, h2⟩ := r; exact ⟨b, o, h1, aJ.Rel.mono h (fun j v hv => jv h hv) h2⟩
 | .ei t k, d, v, r => by
   simp only [DK.Rel] at r ⊢; obtain ⟨y, h1, h2⟩ := r; exact ⟨y, h1, DK.Rel.mono h h2⟩
 | .nilm, _, _, r => r
 | .ap _, _, _, r => by simp only [DK.Rel] at r ⊢; exact r.mono h
theorem aJ.Rel.mono {fz fz' : Fz} (h : Fz.le fz fz') : ∀ {ks : aJ} {row : Nat -> Dv} {cell cell' : Nat -> Option Value} {j : Nat}, (∀ j v, cell j = some v -> cell' j = some v) -> ks.Rel fz row cell j -> ks.Rel fz' row cell' j
 | .nil, _, _, _, _, _, _ => trivial
 | .cons k ks, _, _, _, _, hc, r => by
   simp only [aJ.Rel] at r ⊢; obtain ⟨⟨v, h1, h2⟩, h3⟩ := r; exact ⟨⟨v, hc _ _ h1, DK.Rel.mono h h2⟩, aJ.Rel.mono h hc h3⟩
end
mutual
def DK.same : DK -> DK -> Bool
 | .int .i8, .int .i8 => true
 | .int .i16, .int .i16 => true
 | .int .i32, .int .i32 => true
 | .int .i64, .int .i64 => true
 | .int .u8, .int .u8 => true
 | .int .u16, .int .u16 => true
 | .int .u32, .int .u32 => true
 | .int .u64, .int .u64 => true
 | .bool, .bool => true
 | .str, .str => true
 | .sl a, .sl b => aJ.same a b
 | .fp a, .fp b => aJ.same a b
 | .ei t a, .ei u b => cond (Nat.beq t u) (DK.same a b) false
 | .nilm, .nilm => true
 | .ap a, .ap b => Nat.beq a b
 | _, _ => false
def aJ.same : aJ -> aJ -> Bool
 | .nil, .nil => true
 | .cons a r, .cons b s => cond (DK.same a b) (aJ.same r s) false
 | _, _ => false
end
mutual
theorem DK.ax : ∀ {a b : DK}, a.same b = true -> a = b := by
 intro a b h; cases a with
 | int k => cases b with
   | int l => cases k <;> cases l <;> first | rfl | (simp [DK.same] at h)
   | _ => cases k <;> simp [DK.same] at h
 | bool => cases b <;> first | rfl | (simp [DK.same] at h)
 | str => cases b <;> first | rfl | (simp [DK.same] at h)
 | sl x => cases b with
   | sl y => simp only [DK.same] at h; rw [aJ.ax h]
   | _ => simp [DK.same] at h
 | fp x => cases b with
   | fp y => simp only [DK.same] at h; rw [aJ.ax h]
   | _ => simp [DK.same] at h
 | ei t x => cases b with
   | ei u y =>
     simp only [DK.same] at h; cases h1 : Nat.beq t u with
     | false => rw [h1] at h; cases h
     | true => rw [h1] at h; rw [Nat.eq_of_beq_eq_true h1, DK.ax h]
   | _ => simp [DK.same] at h
 | nilm => cases b <;> first | rfl | (simp [DK.same] at h)
 | ap x => cases b with
   | ap y => simp only [DK.same] at h; rw [Nat.eq_of_beq_eq_true h]
   | _ => simp [DK.same] at h
theorem aJ.ax : ∀ {a b : aJ}, a.same b = true -> a = b := by
 intro a b h; cases a with
 | nil => cases b <;> first | rfl | (simp [aJ.same] at h)
 | cons x r => cases b with
   | nil => simp [aJ.same] at h
   | cons y s =>
     simp only [aJ.same] at h; cases h1 : x.same y with
     | false => rw [h1] at h; cases h
     | true => rw [h1] at h; rw [DK.ax h1, aJ.ax h]
end
theorem DK.Rel.rows {fz : Fz} {ks : aJ} {d d' : Dv} {v : Value} (h : (DK.sl ks).Rel fz d v) (e : d.T = d'.T) : (DK.sl ks).Rel fz d' v := by
 simp only [DK.Rel, Dv.at] at h ⊢; rw [<- e]; exact h
theorem aJ.Rel.get {fz : Fz} : ∀ {ks : aJ} {row : Nat -> Dv} {cell : Nat -> Option Value} {j i : Nat} {k : DK}, ks.Rel fz row cell j -> ks.get i = some k -> ∃ v, cell (j + i) = some v /\ k.Rel fz (row (j + i)) v
 | .nil, _, _, _, i, _, _, h => by simp [aJ.get] at h
 | .cons k r, _, _, j, 0, _, h, hk => by
   simp only [aJ.get, Option.some.injEq] at hk; subst hk; simp only [aJ.Rel] at h; exact h.1
 | .cons k r, _, _, j, i + 1, _, h, hk => by
   simp only [aJ.get] at hk; simp only [aJ.Rel] at h; have := aJ.Rel.get h.2 hk; rw [show j + (i + 1) = j + 1 + i by omega]
   exact this
inductive SV where
 | int (k : IntKind) (e : E)
 | bool (e : E)
 | str (e : E)
 | B4 (e : FE)
 | val (c : Nat) (i : E)
 | fZ
 | ptr (n : Nat) (o : mh)
 | mw
 | bO
 | sl (n sz : Nat) (lo len : E)
 | bQ (ks : aJ) (e : E)
 | iG (ks : aJ) (e : E)
 | dH (ks : aJ) (e i : E) (j : Nat)
 | n9 (T : TypeId) (i : E) (j : Nat)
 | cB
 | map (n : Nat)
 | chan (n : Nat)
 | mA
 | iJ
 | fn (f : Fn) (first cap : List SV)
 | dR
 | ei (t : TypeId) (x : SV)
 | agg (l : List SV)
 | fk (l : List SV)
 | top
 | B5 (v : Value)
 deriving Inhabited
structure Pl where
 block : Nat
 base : Nat
 cap : Nat
 nil : Bool
 gh : Option (Nat × List (Value × Nat))
structure ah where
 pl : Nat -> Option Pl
 fz : Fz
instance : CoeFun ah (fun _ => Nat -> Option Pl) := ⟨ah.pl⟩
structure ah.le (ρ ρ' : ah) : Prop where
 pl : ∀ n p, ρ n = some p -> ρ' n = some p
 fz : Fz.le ρ.fz ρ'.fz
instance {ρ ρ' : ah} : CoeFun (ah.le ρ ρ') (fun _ => ∀ n p, ρ n = some p -> ρ' n = some p) := ⟨ah.le.pl⟩
theorem ah.le_refl (ρ : ah) : ρ.le ρ := ⟨fun _ _ h => h, Fz.le_refl _⟩
theorem ah.le_trans {a b c : ah} (h : a.le b) (k : b.le c) : a.le c := ⟨fun n p e => k n p (h n p e), Fz.le_trans h.fz k.fz⟩
@[reducible] def ah.re (ρ : ah) (σ : Nat -> Nat) : ah := ⟨fun n => ρ (σ n), ρ.fz⟩
def mh.den (env : Env) : mh -> Nat
 | .c j => j
 | .el i sz j => (i.den env).I.toNat * sz + j
def FE.den (env : Env) : FE -> Nat
 | .l b => b
 | .SU e => FloatKind.f64.nearest (e.den env).I
 | .mul a b => (FloatKind.f64.format.mul (a.den env) (b.den env)).getD 0
mutual
def SV.Rel (env : Env) (ρ : ah) : SV -> Value -> Prop
 | .int k e, v => v = .int k (e.den env).I
 | .bool e, v => v = .bool (e.den env).B
 | .str e, v => v = .string (e.den env).S
 | .B4 e, v => v = .float .f64 (e.den env)
 | .val c i, v => v = env.val c (i.den env).I
 | .fZ, v => v = .pointer none
 | .ptr n o, v => ∃ p, ρ n = some p /\ v = .pointer (some ⟨p.block, p.base + o.den env, none⟩)
 | .mw, v => ∃ a, v = .pointer (some a)
 | .bO, v => v = .slice none 0 0
 | .sl n sz lo len, v => ∃ p A, ρ n = some p /\ v = .slice A (len.den env).I.toNat (p.cap - (lo.den env).I.toNat) /\
     (A = none ↔ p.nil = true) /\ ((lo.den env).I.toNat < p.cap -> A = some ⟨p.block, p.base + (lo.den env).I.toNat * sz, none⟩) /\
     (lo.den env).I.toNat + (len.den env).I.toNat <= p.cap /\ 0 <= (lo.den env).I
 | .bQ ks e, v => (DK.sl ks).Rel ρ.fz (e.den env) v
 | .iG ks e, v => (DK.sl ks).Rel ρ.fz (e.den env) v /\ ∃ A n, v = .slice A n n
 | .dH ks e i j, v => ∃ b o, v = .pointer (some ⟨b, o + j, none⟩) /\ ks.Rel ρ.fz (fun j => (e.den env).at (i.den env).I.toNat j) (fun j => cu ρ.fz b (o + j)) 0
 | .n9 T i j, v => o8 ρ.fz T (i.den env).I j v
 | .cB, v => v = .map none
 | .map n, v => ∃ p, ρ n = some p /\ v = .map (some p.block)
 | .chan n, v => ∃ p, ρ n = some p /\ v = .chan (some p.block)
 | .mA, v => v = .chan none
 | .iJ, v => v = .nilFunc
 | .fn f a c, v => ∃ x y, v = .func f x.toArray y.toArray /\ SV.aF env ρ a x /\ SV.aF env ρ c y
 | .dR, v => v = .nilIface
 | .ei t x, v => ∃ y, v = .iface t y /\ SV.Rel env ρ x y
 | .agg l, v => ∃ x, v = .agg x.toArray /\ SV.aF env ρ l x
 | .fk l, v => ∃ x, v = .tuple x.toArray /\ SV.aF env ρ l x
 | .top, v => True
 | .B5 u, v => v = u
def SV.aF (env : Env) (ρ : ah) : List SV -> List Value -> Prop
 | [], vs => vs = []
 | x :: l, vs => ∃ v r, vs = v :: r /\ SV.Rel env ρ x v /\ SV.aF env ρ l r
end
mutual
theorem SV.Rel.mono {env : Env} {ρ ρ' : ah} (h : ρ.le ρ') : ∀ {x : SV} {v : Value}, x.Rel env ρ v -> x.Rel env ρ' v
 | .int .., _, r => r
 | .bool .., _, r => r
 | .str .., _, r => r
 | .B4 .., _, r => r
 | .val .., _, r => r
 | .fZ, _, r => r
 | .ptr .., _, r => by simp only [SV.Rel] at r ⊢; obtain ⟨p, h1, h2⟩ := r; exact ⟨p, h _ _ h1, h2⟩
 | .mw, _, r => r
 | .bO, _, r => r
 | .sl .., _, r => by simp only [SV.Rel] at r ⊢; obtain ⟨p, A, h1, h2⟩ := r; exact ⟨p, A, h _ _ h1, h2⟩
 | .bQ .., _, r => by simp only [SV.Rel] at r ⊢; exact DK.Rel.mono h.fz r
 | .iG .., _, r => by simp only [SV.Rel] at r ⊢; exact ⟨DK.Rel.mono h.fz r.1, r.2⟩
 | .dH .., _, r => by simp only [SV.Rel] at r ⊢; obtain ⟨b, o, h1, h2⟩ := r; exact ⟨b, o, h1, aJ.Rel.mono h.fz (fun j v hv => jv h.fz hv) h2⟩
 | .n9 .., _, r => by simp only [SV.Rel] at r ⊢; exact r.mono h.fz
 | .cB, _, r => r
 | .map .., _, r => by simp only [SV.Rel] at r ⊢; obtain ⟨p, h1, h2⟩ := r; exact ⟨p, h _ _ h1, h2⟩
 | .chan .., _, r => by simp only [SV.Rel] at r ⊢; obtain ⟨p, h1, h2⟩ := r; exact ⟨p, h _ _ h1, h2⟩
 | .mA, _, r => r
 | .iJ, _, r => r
 | .fn .., _, r => by simp only [SV.Rel] at r ⊢; obtain ⟨x, y, h1, h2, h3⟩ := r; exact ⟨x, y, h1, SV.aF.mono h h2, SV.aF.mono h h3⟩
 | .dR, _, r => r
 | .ei .., _, r => by simp only [SV.Rel] at r ⊢; obtain ⟨y, h1, h2⟩ := r; exact ⟨y, h1, SV.Rel.mono h h2⟩
 | .agg .., _, r => by simp only [SV.Rel] at r ⊢; obtain ⟨y, h1, h2⟩ := r; exact ⟨y, h1, SV.aF.mono h h2⟩
 | .fk .., _, r => by simp only [SV.Rel] at r ⊢; obtain ⟨y, h1, h2⟩ := r; exact ⟨y, h1, SV.aF.mono h h2⟩
 | .top, _, r => r
 | .B5 _, _, r => r
theorem SV.aF.mono {env : Env} {ρ ρ' : ah} (h : ρ.le ρ') : ∀ {l : List SV} {vs : List Value}, SV.aF env ρ l vs -> SV.aF env ρ' l vs
 | [], _, r => r
 | x :: l, _, r => by simp only [SV.aF] at r ⊢; obtain ⟨v, q, h1, h2, h3⟩ := r; exact ⟨v, q, h1, SV.Rel.mono h h2, SV.aF.mono h h3⟩
end
theorem SV.aF.length {env : Env} {ρ : ah} : ∀ {l : List SV} {vs : List Value}, SV.aF env ρ l vs -> vs.length = l.length
 | [], _, r => by simp only [SV.aF] at r; subst r; rfl
 | x :: l, _, r => by simp only [SV.aF] at r; obtain ⟨v, q, rfl, _, h⟩ := r; simp [SV.aF.length h]
theorem SV.aF.get {env : Env} {ρ : ah} : ∀ {l : List SV} {vs : List Value} {i : Nat} {x : SV}, SV.aF env ρ l vs -> l[i]? = some x -> ∃ v, vs[i]? = some v /\ x.Rel env ρ v
 | [], _, _, _, _, h => by simp at h
 | y :: l, _, i, x, r, h => by
   simp only [SV.aF] at r; obtain ⟨v, q, rfl, hv, hq⟩ := r; cases i with
   | zero => simp at h; subst h; exact ⟨v, rfl, hv⟩
   | succ i => simp at h; obtain ⟨v', h1, h2⟩ := SV.aF.get hq h; exact ⟨v', by simpa using h1, h2⟩
theorem SV.aF.append {env : Env} {ρ : ah} : ∀ {l m : List SV} {vs ws : List Value}, SV.aF env ρ l vs -> SV.aF env ρ m ws -> SV.aF env ρ (l ++ m) (vs ++ ws)
 | [], _, _, _, r, s => by simp only [SV.aF] at r; subst r; exact s
 | x :: l, _, _, _, r, s => by
   simp only [SV.aF] at r; obtain ⟨v, q, rfl, hv, hq⟩ := r; exact ⟨v, _, rfl, hv, SV.aF.append hq s⟩
theorem SV.aF.take {env : Env} {ρ : ah} : ∀ {l : List SV} {vs : List Value} (n : Nat), SV.aF env ρ l vs -> SV.aF env ρ (l.take n) (vs.take n)
 | [], _, n, r => by simp only [SV.aF] at r; subst r; simp [SV.aF]
 | x :: l, _, n, r => by
   simp only [SV.aF] at r; obtain ⟨v, q, rfl, hv, hq⟩ := r; cases n with
   | zero => simp [SV.aF]
   | succ n => simp only [List.take_succ_cons, SV.aF]; exact ⟨v, _, rfl, hv, SV.aF.take n hq⟩
theorem SV.aF.drop {env : Env} {ρ : ah} : ∀ {l : List SV} {vs : List Value} (n : Nat), SV.aF env ρ l vs -> SV.aF env ρ (l.drop n) (vs.drop n)
 | [], _, n, r => by simp only [SV.aF] at r; subst r; simp [SV.aF]
 | x :: l, _, n, r => by
   cases n with
   | zero => exact r
   | succ n =>
     simp only [SV.aF] at r; obtain ⟨v, q, rfl, hv, hq⟩ := r; exact SV.aF.drop n hq
theorem SV.aF.set {env : Env} {ρ : ah} : ∀ {l : List SV} {vs : List Value} (i : Nat) {x : SV} {v : Value}, SV.aF env ρ l vs -> x.Rel env ρ v -> SV.aF env ρ (l.set i x) (vs.set i v)
 | [], _, n, _, _, r, _ => by simp only [SV.aF] at r; subst r; simp [SV.aF]
 | y :: l, _, i, x, v, r, hx => by
   simp only [SV.aF] at r; obtain ⟨u, q, rfl, hv, hq⟩ := r; cases i with
   | zero => exact ⟨v, q, rfl, hx, hq⟩
   | succ i => exact ⟨u, _, rfl, hv, SV.aF.set i hq hx⟩
def gE : DK -> E -> SV
 | .int k, e => .int k e
 | .bool, e => .bool e
 | .str, e => .str e
 | .sl ks, e => .bQ ks e
 | .fp ks, e => .dH ks e (.il 0) 0
 | .ei t k, e => .ei t (gE k e)
 | .nilm, _ => .cB
 | .ap T, e => .n9 T e 0
inductive ch where
 | int (k : IntKind) (c : Nat)
 | bool (c : Nat)
 | str (c : Nat)
 | val (c : Nat)
 | bQ (ks : aJ) (c : Nat)
 | tc (k : DK) (e : E) (j : Nat)
 deriving Inhabited
def ch.at : ch -> E -> SV
 | .int k c, i => .int k (.fn c i)
 | .bool c, i => .bool (.fn c i)
 | .str c, i => .str (.fn c i)
 | .val c, i => .val c i
 | .bQ ks c, i => .bQ ks (.fn c i)
 | .tc k e j, i => gE k (.o2 (.cell j) e i)
theorem cQ {env : Env} {ρ : ah} {k : DK} {x : E} {v : Value} : (gE k x).Rel env ρ v ↔ k.Rel ρ.fz (x.den env) v := by
 cases k with
 | fp ks => simp only [gE, SV.Rel, DK.Rel, E.den, Dv.I, Int.toNat_zero, Nat.add_zero]
 | ei t k => simp only [gE, SV.Rel, DK.Rel, cQ (k := k)]
 | _ => simp only [gE, SV.Rel, DK.Rel]
termination_by structural k
inductive KK where
 | int (k : IntKind)
 | bool
 | str
 deriving Inhabited, Repr
def dT : KK -> KK -> Bool
 | .int .i8, .int .i8 | .int .i16, .int .i16 | .int .i32, .int .i32 | .int .i64, .int .i64 | .int .u8, .int .u8 | .int .u16, .int .u16 | .int .u32, .int .u32 | .int .u64, .int .u64 => true
 | .bool, .bool => true
 | .str, .str => true
 | _, _ => false
theorem c9 {a b : KK} (h : dT a b = true) : a = b := by
 cases a <;> cases b <;> first
  | rfl
  | (rename_i x y; cases x <;> cases y <;> first | rfl | (cases h; done))
  | (cases h; done)
  | (rename_i x; cases x <;> (cases h; done))
def KK.ok : KK -> Value -> Prop
 | .int k, v => ∃ n, v = .int k n
 | .bool, v => ∃ b, v = .bool b
 | .str, v => ∃ s, v = .string s
def KK.dv : KK -> Dv -> Value
 | .int k, d => .int k d.I
 | .bool, d => .bool d.B
 | .str, d => .string d.S
def KK.q : KK -> KQ
 | .int _ => .i
 | .bool => .b
 | .str => .s
def cg : Value -> Value -> Bool
 | .int _ a, .int _ b => a == b
 | .bool a, .bool b => a == b
 | .string a, .string b => a.toList == b.toList
 | _, _ => false
theorem eK {kk : KK} {a b : Value} (ha : kk.ok a) (hb : kk.ok b) : cg a b = true ↔ a = b := by
 cases kk with
 | int k => obtain ⟨x, rfl⟩ := ha; obtain ⟨y, rfl⟩ := hb; simp [cg]
 | bool => obtain ⟨x, rfl⟩ := ha; obtain ⟨y, rfl⟩ := hb; simp [cg]
 | str =>
   obtain ⟨x, rfl⟩ := ha; obtain ⟨y, rfl⟩ := hb; constructor
   ·intro h; have h : (x.toList == y.toList) = true := h; have h2 : x.toList = y.toList := by simpa using h
    have t : ∀ z : ByteArray, z.toList = z.data.toList := fun z => by
     have : z = ByteArray.mk z.data.toList.toArray := by cases z; simp
     rw [this, ByteArray.toList_mk]
    rw [t, t] at h2; have e : x = y := ByteArray.ext (Array.toList_inj.1 h2); rw [e]
   ·intro h; injection h with h; subst h; simp [cg]
def cont : List (Value × Option Value) -> (Value -> Option Value) -> Value -> Option Value
 | [], r, k => r k
 | (k', v) :: l, r, k => cond (cg k' k) v (cont l r k)
def res (env : Env) (m : Nat) (i : Int) : Value -> Option Value :=
 match m with
 | 0 => fun _ => none
 | m => env.mp m i
mutual
def SV.fl (env : Env) : SV -> Option Value
 | .int k e => some (.int k (e.den env).I)
 | .bool e => some (.bool (e.den env).B)
 | .str e => some (.string (e.den env).S)
 | .val c i => some (env.val c (i.den env).I)
 | .fZ => some (.pointer none)
 | .bO => some (.slice none 0 0)
 | .dR => some .nilIface
 | .agg l => (SV.fls env l).map fun vs => .agg vs.toArray
 | _ => none
def SV.fls (env : Env) : List SV -> Option (List Value)
 | [] => some []
 | x :: l =>
   match SV.fl env x, SV.fls env l with
   | some v, some vs => some (v :: vs)
   | _, _ => none
end
mutual
theorem SV.fl_ok {env : Env} {ρ : ah} : ∀ {x : SV} {u v : Value}, SV.fl env x = some u -> x.Rel env ρ v -> v = u
 | .int .., _, _, h, r => by simp only [SV.fl, Option.some.injEq] at h; simp only [SV.Rel] at r; rw [r, h]
 | .bool .., _, _, h, r => by simp only [SV.fl, Option.some.injEq] at h; simp only [SV.Rel] at r; rw [r, h]
 | .str .., _, _, h, r => by simp only [SV.fl, Option.some.injEq] at h; simp only [SV.Rel] at r; rw [r, h]
 | .val .., _, _, h, r => by simp only [SV.fl, Option.some.injEq] at h; simp only [SV.Rel] at r; rw [r, h]
 | .fZ, _, _, h, r => by simp only [SV.fl, Option.some.injEq] at h; simp only [SV.Rel] at r; rw [r, h]
 | .bO, _, _, h, r => by simp only [SV.fl, Option.some.injEq] at h; simp only [SV.Rel] at r; rw [r, h]
 | .dR, _, _, h, r => by simp only [SV.fl, Option.some.injEq] at h; simp only [SV.Rel] at r; rw [r, h]
 | .agg l, _, _, h, r => by
   simp only [SV.fl, Option.map_eq_some_iff] at h; obtain ⟨vs, h1, h2⟩ := h; simp only [SV.Rel] at r; obtain ⟨us, r1, r2⟩ := r; rw [r1, <- h2, SV.fls_ok h1 r2]
 | .B4 .., _, _, h, _ => by simp [SV.fl] at h
 | .ptr .., _, _, h, _ => by simp [SV.fl] at h
 | .mw, _, _, h, _ => by simp [SV.fl] at h
 | .sl .., _, _, h, _ => by simp [SV.fl] at h
 | .cB, _, _, h, _ => by simp [SV.fl] at h
 | .map .., _, _, h, _ => by simp [SV.fl] at h
 | .chan .., _, _, h, _ => by simp [SV.fl] at h
 | .mA, _, _, h, _ => by simp [SV.fl] at h
 | .iJ, _, _, h, _ => by simp [SV.fl] at h
 | .fn .., _, _, h, _ => by simp [SV.fl] at h
 | .ei .., _, _, h, _ => by simp [SV.fl] at h
 | .fk .., _, _, h, _ => by simp [SV.fl] at h
 | .top, _, _, h, _ => by simp [SV.fl] at h
 | .B5 .., _, _, h, _ => by simp [SV.fl] at h
theorem SV.fls_ok {env : Env} {ρ : ah} : ∀ {l : List SV} {us vs : List Value}, SV.fls env l = some us -> SV.aF env ρ l vs -> vs = us
 | [], us, vs, h, r => by simp only [SV.fls, Option.some.injEq] at h; simp only [SV.aF] at r; rw [r, h]
 | x :: l, us, vs, h, r => by
   simp only [SV.fls] at h; split at h
   ·rename_i u us' h1 h2; injection h with h; subst h; simp only [SV.aF] at r; obtain ⟨v, q, rfl, r1, r2⟩ := r; rw [SV.fl_ok h1 r1, SV.fls_ok h2 r2]
   ·cases h
end
inductive KV where
 | no
 | yes (x : SV)
 | may (b : E) (x : SV)
 deriving Inhabited
def NO (env : Env) : KV -> Option (Option Value)
 | .no => some none
 | .yes x => (SV.fl env x).map some
 | .may b x => (SV.fl env x).map fun v => cond (b.den env).B (some v) none
def CH (env : Env) : List (SV × KV) -> Option (List (Value × Option Value))
 | [] => some []
 | (k, x) :: l =>
   match SV.fl env k, NO env x, CH env l with
   | some a, some b, some r => some ((a, b) :: r)
   | _, _, _ => none
inductive Ob where
 | e (x : E)
 | mp (kk : KK) (m : Nat) (ix : E) (known : List (SV × KV)) (m' : Nat) (ix' : E) (known' : List (SV × KV))
 | t (a b : E)
 | p (a b : E)
def Ob.den (env : Env) : Ob -> Prop
 | .e x => (x.den env).B = true
 | .mp kk m ix known m' ix' known' => ∃ kv kv', CH env known = some kv /\ CH env known' = some kv' /\ ∀ k, kk.ok k -> cont kv (res env m (ix.den env).I) k = cont kv' (res env m' (ix'.den env).I) k
 | .t a b => (a.den env).T = (b.den env).T
 | .p a b => (a.den env).T.Perm (b.den env).T
inductive aD where
 | cells (T : TypeId) (cs : List SV)
 | row (T : TypeId) (sz : Nat) (len : E) (cols : List ch) (tail : List (List SV))
 | rk (sz : Nat) (len : E) (cols : List ch)
 | map (m : Nat) (ix : E) (kk : KK) (sz : E) (known : List (SV × KV))
 | ar (T : TypeId) (ks : aJ) (e : E)
 | fwd (T : TypeId) (i : E)
 | NQ (ks : aJ) (e : E)
 | lj (kk : KK) (ag : Bool) (ks : aJ) (e : E) (it : Option Nat)
 | oa (m : Nat) (kk : KK) (V : E)
 | rV (T : TypeId) (ks : aJ) (e : E)
 | chan (closed : E)
 | dU
 | gone
 deriving Inhabited
def dL (T : Nat) : Nat := 500000 + T
abbrev aM := Nat -> Option aD
def az (h : aM) (n : Nat) : Option aD := h n
def bh (h : aM) (n : Nat) (x : aD) : aM := fun k => if k = n then some x else h k
theorem aj (h : aM) (n : Nat) (x : aD) (k : Nat) : az (bh h n x) k = if k = n then some x else az h k := rfl
abbrev aR := List (Nat × aD)
def bZ : aR -> Nat -> Option aD
 | [], _ => none
 | (m, o) :: r, n => cond (Nat.beq m n) (some o) (bZ r n)
def Bl : aR -> Nat -> aD -> aR
 | [], n, x => [(n, x)]
 | (m, o) :: r, n, x => cond (Nat.beq m n) ((n, x) :: r) (cond (Nat.blt m n) ((n, x) :: (m, o) :: r) ((m, o) :: Bl r n x))
def bm (c : aR) : aM := fun n => bZ c n
theorem sX (h : aR) (n : Nat) (x : aD) : bm (Bl h n x) = bh (bm h) n x := by
 funext k
 unfold bm bh
 induction h with
 | nil =>
   unfold Bl bZ bZ
   by_cases e : k = n
   ·subst e; simp
   ·have : Nat.beq n k = false := by rw [Bool.eq_false_iff]; intro h; exact e (Nat.eq_of_beq_eq_true h).symm
    simp [this, e]
 | cons p r ih =>
   obtain ⟨m, o⟩ := p; unfold Bl; cases h1 : Nat.beq m n with
   | true =>
     obtain rfl := Nat.eq_of_beq_eq_true h1; simp only [cond_true, bZ]
     by_cases e : k = m
     ·subst e; simp
     ·have : Nat.beq m k = false := by rw [Bool.eq_false_iff]; intro h; exact e (Nat.eq_of_beq_eq_true h).symm
      simp [this, e]
   | false =>
     have hmn : m ≠ n := fun e => by subst e; simp at h1
     cases h2 : Nat.blt m n with
     | true =>
       simp only [cond_false, cond_true, bZ]
       by_cases e : k = n
       ·subst e; simp
       ·have : Nat.beq n k = false := by rw [Bool.eq_false_iff]; intro h; exact e (Nat.eq_of_beq_eq_true h).symm
        simp [this, e]
     | false =>
       simp only [cond_false, bZ, ih]; cases h3 : Nat.beq m k with
       | true =>
         obtain rfl := Nat.eq_of_beq_eq_true h3; simp [hmn]
       | false => simp
inductive Err where
 | undecided (e : E)
 | msg (s : String)
 deriving Repr
abbrev Ex (α : Type) := Except Err α
inductive Prog (α : Type) : Type where
 | ret (a : α)
 | fail (m : String)
 | get (n : Nat) (k : aD -> Prog α)
 | put (n : Nat) (o : aD) (k : Prog α)
 | vc (e : Ob) (k : Prog α)
 | dec (e : E) (k : Bool -> Prog α)
namespace Prog
def bind {α β : Type} : Prog α -> (α -> Prog β) -> Prog β
 | .ret a, f => f a
 | .fail m, _ => .fail m
 | .get n k, f => .get n fun o => (k o).bind f
 | .put n o k, f => .put n o (k.bind f)
 | .vc e k, f => .vc e (k.bind f)
 | .dec e k, f => .dec e fun b => (k b).bind f
instance : Monad Prog where
 pure := Prog.ret
 bind := Prog.bind
end Prog
structure aH where
 rd : List Nat
 wr : List Nat
 deriving Repr
structure Xr (α : Type) where
 a : α
 h : aR
 vcs : List Ob
 ft : aH
def m6 (fs : aa) : Ob -> Option Bool
 | .e x => ck fs x
 | .t a b => cond (a.same b) (some true) none
 | .p a b => cond (a.same b) (some true) none
 | _ => none
theorem yi {env : Env} {fs : aa} (hf : fs.ay env) {o : Ob} (h : m6 fs o = some true) : o.den env := by
 cases o with
 | e x => exact rh hf h
 | mp => cases h
 | t a b =>
   simp only [m6] at h; cases hs : a.same b with
   | true => show (a.den env).T = (b.den env).T; rw [E.ax hs]
   | false => rw [hs] at h; cases h
 | p a b =>
   simp only [m6] at h; cases hs : a.same b with
   | true => show (a.den env).T.Perm (b.den env).T; rw [E.ax hs]
   | false => rw [hs] at h; cases h
def Prog.run {α : Type} (fs : aa) : Prog α -> aR -> List Ob -> aH -> Ex (Xr α)
 | .ret a, h, vcs, ft => .ok ⟨a, h, vcs, ft⟩
 | .fail m, _, _, _ => .error (.msg m)
 | .get n k, h, vcs, ft =>
   match bZ h n with
   | some o => (k o).run fs h vcs ⟨n :: ft.rd, ft.wr⟩
   | none => .error (.msg "no such name")
 | .put n o k, h, vcs, ft => k.run fs (Bl h n o) vcs ⟨ft.rd, n :: ft.wr⟩
 | .vc e k, h, vcs, ft =>
   match m6 fs e with
   | some true => k.run fs h vcs ft
   | some false => .error (.msg "a condition that is false")
   | none => k.run fs h (e :: vcs) ft
 | .dec e k, h, vcs, ft =>
   match ck fs e with
   | some b => (k b).run fs h vcs ft
   | none => .error (.undecided e)
def Prog.Ev {α : Type} (env : Env) : Prog α -> aM -> α -> aM -> aH -> aH -> Prop
 | .ret a, h, b, h', ft, ft' => a = b /\ h = h' /\ ft = ft'
 | .fail _, _, _, _, _, _ => False
 | .get n k, h, b, h', ft, ft' => ∃ o, az h n = some o /\ (k o).Ev env h b h' ⟨n :: ft.rd, ft.wr⟩ ft'
 | .put n o k, h, b, h', ft, ft' => k.Ev env (bh h n o) b h' ⟨ft.rd, n :: ft.wr⟩ ft'
 | .vc e k, h, b, h', ft, ft' => e.den env /\ k.Ev env h b h' ft ft'
 | .dec e k, h, b, h', ft, ft' => (k (e.den env).B).Ev env h b h' ft ft'
theorem Prog.Ev.local {α : Type} {env : Env} : ∀ {p : Prog α} {h : aM} {a : α} {h' : aM} {ft ft' : aH}, p.Ev env h a h' ft ft' ->
    ∃ R W, ft' = ⟨R ++ ft.rd, W ++ ft.wr⟩ /\ (∀ n, n ∉ W -> h' n = h n) /\
     ∀ (t : aM) (gt : aH), (∀ n ∈ R, t n = h n) -> ∃ t', p.Ev env t a t' gt ⟨R ++ gt.rd, W ++ gt.wr⟩ /\ ∀ n, t' n = if n ∈ W then h' n else t n
 | .ret a, h, b, h', ft, ft', ⟨h1, h2, h3⟩ => by
   subst h1; subst h2; subst h3; exact ⟨[], [], rfl, fun n _ => rfl, fun t gt _ => ⟨t, ⟨rfl, rfl, rfl⟩, fun n => by simp⟩⟩
 | .fail _, _, _, _, _, _, e => e.elim
 | .get n k, h, b, h', ft, ft', ⟨o, h1, h2⟩ => by
   obtain ⟨R, W, e, hw, hl⟩ := Prog.Ev.local h2; refine ⟨R ++ [n], W, by rw [e]; simp, hw, fun t gt ht => ?_⟩
   obtain ⟨t', g1, g2⟩ := hl t ⟨n :: gt.rd, gt.wr⟩ (fun m hm => ht m (List.mem_append_left _ hm)); refine ⟨t', ⟨o, ?_, by simpa using g1⟩, g2⟩
   show t n = some o; rw [ht n (by simp)]
   exact h1
 | .put n o k, h, b, h', ft, ft', h2 => by
   obtain ⟨R, W, e, hw, hl⟩ := Prog.Ev.local (p := k) h2; refine ⟨R, W ++ [n], by rw [e]; simp, fun m hm => ?_, fun t gt ht => ?_⟩
   ·simp only [List.mem_append, List.mem_singleton, not_or] at hm; rw [hw m hm.1]; show (if m = n then some o else h m) = h m
    rw [if_neg hm.2]
   ·obtain ⟨t', g1, g2⟩ := hl (bh t n o) ⟨gt.rd, n :: gt.wr⟩ (fun m hm => by
      show (if m = n then some o else t m) = (if m = n then some o else h m)
      rw [ht m hm])
    refine ⟨t', by show Prog.Ev env k (bh t n o) b t' ⟨gt.rd, n :: gt.wr⟩ _; simpa using g1, fun m => ?_⟩
    rw [g2 m]
    by_cases hmW : m ∈ W
    ·simp [hmW]
    ·by_cases hmn : m = n
     ·subst hmn; rw [if_neg hmW, if_pos (by simp), hw m hmW]
      simp [bh]
     ·rw [if_neg hmW, if_neg (by simp [hmW, hmn])]
      show (if m = n then some o else t m) = t m
      rw [if_neg hmn]
 | .vc e k, h, b, h', ft, ft', ⟨h1, h2⟩ => by
   obtain ⟨R, W, e, hw, hl⟩ := Prog.Ev.local h2; refine ⟨R, W, e, hw, fun t gt ht => ?_⟩; obtain ⟨t', g1, g2⟩ := hl t gt ht; exact ⟨t', ⟨h1, g1⟩, g2⟩
 | .dec e k, h, b, h', ft, ft', h2 => by
   obtain ⟨R, W, e, hw, hl⟩ := Prog.Ev.local (p := k _) h2; refine ⟨R, W, e, hw, fun t gt ht => ?_⟩; obtain ⟨t', g1, g2⟩ := hl t gt ht; exact ⟨t', g1, g2⟩
def bG : SV := .fk []
mutual
def ofVal : Value -> Option SV
 | .bool b => some (.bool (.bl b))
 | .int k n => some (.int k (.il n))
 | .string s => some (.str (.sl s.data.toList))
 | .float .f64 b => some (.B4 (.l b))
 | .pointer none => some .fZ
 | .slice none 0 0 => some .bO
 | .map none => some .cB
 | .chan none => some .mA
 | .nilFunc => some .iJ
 | .nilIface => some .dR
 | .func f ⟨[]⟩ ⟨[]⟩ => some (.fn f [] [])
 | .agg ⟨cs⟩ => (ofVals cs).map .agg
 | .tuple ⟨cs⟩ => (ofVals cs).map .fk
 | _ => none
def ofVals : List Value -> Option (List SV)
 | [] => some []
 | v :: r =>
   match ofVal v, ofVals r with
   | some x, some l => some (x :: l)
   | _, _ => none
end
def SV.cells : SV -> List SV
 | .agg l => l
 | x => [x]
def SV.one : SV -> Bool
 | .agg _ => false
 | .fk _ => false
 | .val .. => false
 | .top => false
 | .B5 _ => false
 | _ => true
def SV.shut : SV -> Bool
 | .val .. => false
 | .top => false
 | .B5 _ => false
 | _ => true
def setAt (l : List SV) (j : Nat) (vs : List SV) : List SV := l.take j ++ vs ++ l.drop (j + vs.length)
def aZ {α : Type} (o : Option α) (m : String) : Prog α :=
 match o with
 | some a => .ret a
 | none => .fail m
def e8 (n : Nat) : Prog aD := .get n .ret
def iW (n : Nat) (o : aD) : Prog Unit := .put n o (.ret ())
def ka (e : E) : Prog Unit := .vc (.e e) (.ret ())
def vcO (o : Ob) : Prog Unit := .vc o (.ret ())
def zY (e : E) : Prog Bool := .dec e .ret
def aV (b : Bool) (m : String) : Prog Unit := cond b (.ret ()) (.fail m)
def p9 (P : Program) (t : TypeId) : Prog TypeDesc := aZ (P.underlying t) "no type"
def inf (P : Program) (t : TypeId) : Prog TypeInfo := aZ (P.info? t) "no type"
def jQ : TypeDesc -> Bool
 | .struct _ => true
 | .array _ _ => true
 | _ => false
def nN (P : Program) (t : TypeId) : Prog SV := do
 let i <- inf P t
 let z <- aZ i.zero "no zero"
 aZ (ofVal z) "a zero value that is not taken"
def takeN (l : List SV) (j n : Nat) : Prog (List SV) := do
 let r := (l.drop j).take n
 aV (Nat.beq r.length n) "cells out of range"
 return r
def ln (a b : E) : E := jT .le a b
def J6 (a b : E) : E := jT .lt a b
def leS (a b : E) : E := cond (a.same b) (.bl true) (ln a b)
def U3 (i len : E) : Prog Unit := do ka (ln (.il 0) i); ka (J6 i len)
def nat? : E -> Option Nat
 | .il (.ofNat n) => some n
 | _ => none
def Ad (a b : E) : E :=
 match a, b with
 | .il 0, b => b
 | a, .il 0 => a
 | a, b => jT .add a b
def Pr (a b : E) : E :=
 match b with
 | .il 0 => a
 | b => jT .sub a b
theorem jH (env : Env) (a b : E) : ((Ad a b).den env).I = (a.den env).I + (b.den env).I := by
 unfold Ad; split
 ·show _ = (0 : Int) + _; omega
 ·show _ = _ + (0 : Int); omega
 ·rw [bq]; rfl
theorem xy (env : Env) (a b : E) : ((Pr a b).den env).I = (a.den env).I - (b.den env).I := by
 unfold Pr; split
 ·show _ = _ - (0 : Int); omega
 ·rw [bq]; rfl
def D0 (i : E) : Nat -> Nat -> Prog Nat
 | _, 0 => .fail "an index that is none of those"
 | k, 1 => do
   ka (jT .aN i (.il (k : Nat)))
   return k
 | k, m + 2 => do
   let t <- zY (jT .aN i (.il (k : Nat)))
   match t with
   | true => return k
   | false => D0 i (k + 1) (m + 1)
def Wv (i : E) (n : Nat) : Prog Nat :=
 match nat? i with
 | some b => .ret b
 | none => D0 i 0 n
def dp (o : aD) (off : mh) (n : Nat) : Prog (List SV) :=
 match o, off with
 | .cells _ cs, .c j => takeN cs j n
 | .row _ sz len cols tail, .el i sz' j => do
   aV (Nat.beq sz sz') "another size"
   match tail with
   | [] => do
     U3 i len
     takeN (cols.map (·.at i)) j n
   | _ => do
     let a <- aZ (nat? len) "a row with news, of no known length"
     let b <- Wv i (a + tail.length)
     match Nat.blt b a with
     | true => takeN (cols.map (·.at i)) j n
     | false => do
       let x <- aZ tail[b - a]? "behind the row"
       takeN x j n
 | .rk sz len cols, .el i sz' j => do
   aV (Nat.beq sz sz') "another size"
   U3 i len
   takeN (cols.map (·.at i)) j n
 | _, _ => .fail "no cells there"
def oc (ks : aJ) (e i : E) : Nat -> Nat -> Option (List SV)
 | _, 0 => some []
 | j, n + 1 =>
   match ks.get j, oc ks e i (j + 1) n with
   | some k, some l => some (gE k (jT (.cell j) e i) :: l)
   | _, _ => none
def uA (P : Program) (t : TypeId) (x : SV) : Prog SV :=
 match x with
 | .ptr n off => do
   let d <- p9 P t
   let i <- inf P t
   let o <- e8 n
   match jQ d with
   | true => do
     let l <- dp o off i.size
     return .agg l
   | false => do
     let l <- dp o off 1
     match l with
     | [v] => return v
     | _ => .fail "one cell wanted"
 | .dH ks e i j => do
   let d <- p9 P t
   let n <- inf P t
   match jQ d with
   | true => do
     let l <- aZ (oc ks e i j n.size) "no such cells"
     return .agg l
   | false => do
     let l <- aZ (oc ks e i j 1) "no such cells"
     match l with
     | [v] => return v
     | _ => .fail "one cell wanted"
 | _ => .fail "load: no pointer"
def setCells (o : aD) (off : mh) (vs : List SV) : Prog aD :=
 match o, off with
 | .cells T cs, .c j => do
   aV (Nat.ble (j + vs.length) cs.length) "store: out of range"
   return .cells T (setAt cs j vs)
 | .row T sz len cols tail, .el i sz' j => do
   aV (Nat.beq sz sz') "another size"
   let a <- aZ (nat? len) "store: a row of no known length"
   let b <- aZ (nat? i) "store: an index that is not known"
   aV (Nat.ble a b) "store: into a given row"
   let x <- aZ tail[b - a]? "store: behind the row"
   aV (Nat.ble (j + vs.length) x.length) "store: out of range"
   return .row T sz len cols (tail.set (b - a) (setAt x j vs))
 | _, _ => .fail "store: no cells there"
def qB (P : Program) (t : TypeId) (x v : SV) : Prog Unit :=
 match x with
 | .ptr n off => do
   let i <- inf P t
   aV (Nat.beq v.cells.length i.size) "store: size"
   aV (v.cells.all SV.one) "store: a cell that is none"
   let o <- e8 n
   let o' <- setCells o off v.cells
   iW n o'
 | _ => .fail "store: no pointer"
def oG (nm : Nat) (o : aD) : Prog Unit := do
 let r <- e8 nm
 match r with
 | .dU => iW nm o
 | _ => .fail "the name is taken"
def Ni (P : Program) (nm : Nat) (t : TypeId) (v : SV) : Prog SV := do
 aV v.shut "box: an open value"
 oG nm (.cells t v.cells)
 return .ptr nm (.c 0)
def yP : List (Nat × SV) -> (Nat -> Option (Nat × Nat)) -> List SV -> Option (List SV)
 | [], _, cs => some cs
 | (i, v) :: r, place, cs =>
   match place i with
   | none => none
   | some (off, size) => cond (v.shut && Nat.beq v.cells.length size && Nat.ble (off + v.cells.length) cs.length) (yP r place (setAt cs off v.cells)) none
def kU (P : Program) (t : TypeId) : Option Nat := (P.info? t).map (·.size)
def gJ (P : Program) : List Field -> Option (List (Nat × Nat))
 | [] => some []
 | f :: r =>
   match kU P f.type, gJ P r with
   | some s, some l => some ((f.offset, s) :: l)
   | _, _ => none
def Gg (P : Program) (t : TypeId) (parts : List (Nat × SV)) : Prog SV := do
 let z <- nN P t
 let d <- p9 P t
 match d with
 | .struct fields => do
   let pl <- aZ (gJ P fields.toList) "build: a field's type"
   let cs <- aZ (yP parts (fun i => pl[i]?) z.cells) "build: parts"
   return .agg cs
 | .array _ elem => do
   let s <- aZ (kU P elem) "build: an element's type"
   let cs <- aZ (yP parts (fun i => some (i * s, s)) z.cells) "build: parts"
   return .agg cs
 | _ => .fail "build: struct or array"
def p6 {α : Type} (n : Nat) (a : α) : List α :=
 match n with
 | 0 => []
 | n + 1 => a :: p6 n a
def B9 : List (Nat × SV) -> Nat -> List (List SV) -> Option (List (List SV))
 | [], _, l => some l
 | (i, v) :: r, sz, l => cond (v.shut && Nat.beq v.cells.length sz && Nat.blt i l.length) (B9 r sz (l.set i v.cells)) none
def oJ (P : Program) (nm : Nat) (t : TypeId) (len : Nat) (parts : List (Nat × SV)) : Prog SV := do
 let d <- p9 P t
 match d with
 | .slice elem => do
   let sz <- aZ (kU P elem) "buildSlice: an element's type"
   aV (Nat.blt 0 sz) "buildSlice: elements without cells"
   aV (Nat.ble (len * sz) 16777216) "buildSlice: too long"
   let z <- nN P elem
   aV (Nat.beq z.cells.length sz) "buildSlice: the zero's size"
   let l <- aZ (B9 parts sz (p6 len z.cells)) "buildSlice: parts"
   oG nm (.row elem sz (.il 0) [] l)
   return .sl nm sz (.il 0) (.il (len : Nat))
 | _ => .fail "buildSlice: slice"
def wY : IntKind -> Int
 | .i8 => -128 | .i16 => -32768 | .i32 => -2147483648 | .i64 => -9223372036854775808 | _ => 0
def w7 : IntKind -> Int
 | .i8 => 127 | .i16 => 32767 | .i32 => 2147483647 | .i64 => 9223372036854775807
 | .u8 => 255 | .u16 => 65535 | .u32 => 4294967295 | .u64 => 18446744073709551615
def fo : IntKind -> IntKind -> Bool
 | .i8, .i8 | .i16, .i16 | .i32, .i32 | .i64, .i64 | .u8, .u8 | .u16, .u16 | .u32, .u32 | .u64, .u64 => true
 | _, _ => false
def arith (k : IntKind) (e : E) : Prog SV :=
 match e with
 | .il z => .ret (.int k (.il (k.wrap z)))
 | e => do
   ka (ln (.il (wY k)) e)
   ka (ln e (.il (w7 k)))
   return .int k e
def l8 (e : E) : E := gk .not e
def X5 (a b : E) : E :=
 match a, b with
 | .bl true, b => b
 | a, .bl true => a
 | .bl false, b => l8 b
 | a, .bl false => l8 a
 | a, b => jT .beq a b
def Hi (P : Program) (t : TypeId) (cs : List SV) (off : Nat) : Prog SV := do
 let d <- p9 P t
 let i <- inf P t
 match jQ d with
 | true => do
   let l <- takeN cs off i.size
   return .agg l
 | false => aZ cs[off]? "no such cell"
def U2 (a b : E) : E :=
 match a, b with
 | .bl true, b => b
 | a, .bl true => a
 | a, b => jT .and a b
def L8 (P : Program) (rc : TypeId -> SV -> SV -> Prog E) (xs ys : List SV) : List Field -> Prog E
 | [] => .ret (.bl true)
 | f :: r => do
   aV (f.name != "_") "==: a blank field"
   let a <- Hi P f.type xs f.offset
   let b <- Hi P f.type ys f.offset
   let e <- rc f.type a b
   let e2 <- L8 P rc xs ys r
   return U2 e e2
def eqS (P : Program) : Nat -> TypeId -> SV -> SV -> Prog E
 | 0, _, _, _ => .fail "==: too deep"
 | d + 1, t, x, y => do
   let u <- p9 P t
   match u, x, y with
   | .bool, .bool a, .bool b => return X5 a b
   | .int _, .int k a, .int k' b => do aV (fo k k') "==: kinds"; return jT .aN a b
   | .string, .str a, .str b => return jT .seq a b
   | .pointer _, .fZ, .fZ => return .bl true
   | .pointer _, .fZ, .ptr .. => return .bl false
   | .pointer _, .ptr .., .fZ => return .bl false
   | .pointer _, .fZ, .dH .. => return .bl false
   | .pointer _, .dH .., .fZ => return .bl false
   | .pointer _, .fZ, .mw => return .bl false
   | .pointer _, .mw, .fZ => return .bl false
   | .pointer _, .fZ, .n9 _ i _ => return J6 i (.il 0)
   | .pointer _, .n9 _ i _, .fZ => return J6 i (.il 0)
   | .interface _, .dR, .dR => return .bl true
   | .interface _, .dR, .ei .. => return .bl false
   | .interface _, .ei .., .dR => return .bl false
   | .slice _, .bO, .bO => return .bl true
   | .map .., .cB, .cB => return .bl true
   | .map .., .cB, .map _ => return .bl false
   | .map .., .map _, .cB => return .bl false
   | .func .., .iJ, .iJ => return .bl true
   | .func .., .iJ, .fn .. => return .bl false
   | .func .., .fn .., .iJ => return .bl false
   | .struct fs, .agg xs, .agg ys => do
     aV (!(P.stoodInHeld t)) "==: a type that is stood in for"
     L8 P (eqS P d) xs ys fs.toList
   | _, _, _ => .fail "==: not taken"
def IC : Operand -> Bool
 | .const _ => true
 | _ => false
def SV.jb : SV -> Bool
 | .dR => true
 | _ => false
def SV.kW : SV -> Bool
 | .agg _ => true
 | _ => false
def Ej (P : Program) (op : BinOp) (t : TypeId) (x y : Operand) (a b : SV) : Prog Unit :=
 match op with
 | .eql | .neq => do
   aV (a.shut && b.shut) "==: open"
   aV (!(a.kW && b.kW) || !(P.eqGuardType P.depth t)) "==: structs with interfaces"
   aV (IC x || IC y || !(a.jb && b.jb)) "==: two nil interfaces"
 | _ => .ret ()
def Au : SV -> Bool
 | .bool _ | .fZ | .ptr .. | .dH .. | .n9 .. | .mw | .dR | .ei .. | .bO | .sl .. | .cB | .map _ | .iJ | .fn .. | .agg _ => true
 | _ => false
def Yc (P : Program) (op : BinOp) (t : TypeId) (x y : SV) : Prog SV :=
 match op, x, y with
 | .shl, _, _ => .fail "shift"
 | .shr, .int k a, .int _ (.il (.ofNat n)) => do aV (Nat.ble n 7) "shift"; ka (ln (.il 0) a); return .int k (jT .quo a (.il ((2 ^ n : Nat) : Int)))
 | .add, .int k a, .int k' b => do aV (fo k k') "kinds"; arith k (jT .add a b)
 | .sub, .int k a, .int k' b => do aV (fo k k') "kinds"; arith k (jT .sub a b)
 | .mul, .int k a, .int k' b => do aV (fo k k') "kinds"; arith k (jT .mul a b)
 | .quo, .int k a, .int k' b => do aV (fo k k') "kinds"; ka (l8 (jT .aN b (.il 0))); arith k (jT .quo a b)
 | .rem, .int k a, .int k' b => do aV (fo k k') "kinds"; ka (l8 (jT .aN b (.il 0))); return .int k (jT .rem a b)
 | .eql, .int k a, .int k' b => do aV (fo k k') "kinds"; return .bool (jT .aN a b)
 | .neq, .int k a, .int k' b => do aV (fo k k') "kinds"; return .bool (l8 (jT .aN a b))
 | .lss, .int k a, .int k' b => do aV (fo k k') "kinds"; return .bool (jT .lt a b)
 | .leq, .int k a, .int k' b => do aV (fo k k') "kinds"; return .bool (jT .le a b)
 | .gtr, .int k a, .int k' b => do aV (fo k k') "kinds"; return .bool (jT .lt b a)
 | .geq, .int k a, .int k' b => do aV (fo k k') "kinds"; return .bool (jT .le b a)
 | .mul, .B4 (.l c), .B4 (.SU e) => do ka (.o1 (.fok c) e); return .B4 (.mul (.l c) (.SU e))
 | .add, .str a, .str b => do ka (ln (jT .add (gk .size a) (gk .size b)) (.il 9223372036854775807)); return .str (jT .cat a b)
 | .eql, .str a, .str b => return .bool (jT .seq a b)
 | .neq, .str a, .str b => return .bool (l8 (jT .seq a b))
 | .lss, .str a, .str b => return .bool (jT .slt a b)
 | .gtr, .str a, .str b => return .bool (jT .slt b a)
 | .eql, .int .., _ => .fail "=="
 | .neq, .int .., _ => .fail "=="
 | .eql, x, y => do aV (Au x) "=="; let e <- eqS P 10000 t x y; return .bool e
 | .neq, x, y => do aV (Au x) "=="; let e <- eqS P 10000 t x y; return .bool (l8 e)
 | .geq, .str a, .str b => return .bool (l8 (jT .slt a b))
 | .leq, .str a, .str b => return .bool (l8 (jT .slt b a))
 | _, _, _ => .fail "an operator that is not taken"
def unS (op : UnOp) (x : SV) : Prog SV :=
 match op, x with
 | .neg, .int k e => arith k (jT .sub (.il 0) e)
 | .not, .bool e => return .bool (l8 e)
 | _, _ => .fail "an operator that is not taken"
def LO (P : Program) (src dst : TypeId) (x : SV) : Prog SV := do
 let s <- p9 P src
 let d <- p9 P dst
 match s, d, x with
 | _, .int k, .int _ e => arith k e
 | _, .float .f64, .int _ e => return .B4 (.SU e)
 | _, .int .i64, .B4 (.mul (.l c) (.SU e)) => do ka (.o1 (.fok c) e); return .int .i64 (.o1 (.fin c) e)
 | _, .string, .str _ => return x
 | .slice e, .string, .sl n _ (.il 0) (.il 1) => do
   let u <- p9 P e
   match u with
   | .int .u8 => do
     let o <- e8 n
     match o with
     | .row _ 1 (.il 0) [] [[.int .u8 c]] => return .str (.o1 .chr c)
     | _ => .fail "a conversion that is not taken"
   | _ => .fail "a conversion that is not taken"
 | _, _, _ => .fail "a conversion that is not taken"
def AO (P : Program) (t : TypeId) (x : SV) (f : Nat) : Prog SV := do
 let u <- p9 P t
 match u with
 | .struct fields => do
   let fd <- aZ fields[f]? "no such field"
   let sz <- aZ (kU P fd.type) "a field's type"
   match x with
   | .ptr n (.c j) =>
     match sz with
     | 0 => do
       let o <- e8 n
       match o with
       | .cells T cs => do
         aV ((byteOfCell P P.depth T (j % P.cellsOf T)).isSome) "a field without cells"
         aV (Nat.blt 0 (P.cellsOf T)) "a field without cells"
         aV ((byteOfCell P P.depth T ((j + fd.offset) % P.cellsOf T)).isSome) "a field without cells"
         return .mw
       | _ => .fail "a field without cells"
     | _ + 1 => return .ptr n (.c (j + fd.offset))
   | .ptr n (.el i s j) =>
     match sz with
     | 0 => .fail "a field without cells"
     | _ + 1 => return .ptr n (.el i s (j + fd.offset))
   | .dH ks e i j =>
     match sz with
     | 0 => .fail "a field without cells"
     | _ + 1 => return .dH ks e i (j + fd.offset)
   | _ => .fail "fieldAddr: no pointer"
 | _ => .fail "fieldAddr: struct"
def E2 (P : Program) (t : TypeId) (x : SV) (f : Nat) : Prog SV := do
 let u <- p9 P t
 match u, x with
 | .struct fields, .agg cs => do
   let fd <- aZ fields[f]? "no such field"
   let d <- p9 P fd.type
   let i <- inf P fd.type
   match jQ d with
   | true => do
     let l <- takeN cs fd.offset i.size
     return .agg l
   | false => aZ cs[fd.offset]? "no such cell"
 | _, _ => .fail "field: struct"
def FX (P : Program) (t : TypeId) (x ix : SV) : Prog SV := do
 let u <- p9 P t
 match u, x, ix with
 | .slice elem, .sl n sz lo len, .int _ i => do
   let s <- aZ (kU P elem) "an element's type"
   aV (Nat.beq s sz) "another size"
   U3 i len
   return .ptr n (.el (Ad lo i) sz 0)
 | .slice elem, .bQ ks e, .int _ i => do
   let s <- aZ (kU P elem) "an element's type"
   aV (Nat.beq s ks.len) "another size"
   U3 i (gk .ab e)
   return .dH ks e i 0
 | .array alen elem, .ptr n (.c j), .int _ i => do
   let s <- aZ (kU P elem) "an element's type"
   let k <- aZ (nat? i) "an array's index that is not known"
   aV (Nat.blt k alen) "an array's index out of range"
   return .ptr n (.c (j + k * s))
 | _, _, _ => .fail "indexAddr: not taken"
def EX (P : Program) (t : TypeId) (x ix : SV) : Prog SV := do
 let u <- p9 P t
 match u, x, ix with
 | .string, .str s, .int _ i => do
   U3 i (gk .size s)
   return .int .u8 (.o2 .byte s i)
 | _, _, _ => .fail "index: not taken"
def qC (dflt : E) : Option SV -> Prog E
 | none => .ret dflt
 | some (.int _ e) => .ret e
 | _ => .fail "slice: bound"
def isZ : E -> Bool
 | .il 0 => true
 | _ => false
def yD (e l h : E) : E := cond (isZ l) (cond (h.same (gk .ab e)) e (.o2 .cJ e h)) (.o2 .n5 (cond (h.same (gk .ab e)) e (.o2 .cJ e h)) l)
theorem Mx {env : Env} (e l h : E) : ((yD e l h).den env).T = ((e.den env).T.take (h.den env).I.toNat).drop (l.den env).I.toNat := by
 have h1 : ((cond (h.same (gk .ab e)) e (E.o2 .cJ e h)).den env).T = (e.den env).T.take (h.den env).I.toNat := by
  cases hs : h.same (gk .ab e) with
  | true =>
    have : (h.den env).I = (e.den env).T.length := by rw [E.ax hs, bA]; rfl
    rw [this, Int.toNat_natCast, List.take_length]; rfl
  | false => rfl
 unfold yD; cases hz : isZ l with
 | true =>
   have : (l.den env).I = 0 := by
    unfold isZ at hz; split at hz
    ·rfl
    ·cases hz
   rw [this]; exact h1
 | false =>
   show ((cond (h.same (gk .ab e)) e (E.o2 .cJ e h)).den env).T.drop _ = _; rw [h1]
def BH (P : Program) (t : TypeId) (x : SV) (lo hi : Option SV) : Prog SV := do
 let u <- p9 P t
 let l <- qC (.il 0) lo
 match u, x with
 | .string, .str s => do
   let h <- qC (gk .size s) hi
   ka (ln (.il 0) l); ka (ln l h); ka (ln h (gk .size s))
   return .str (.ext s l h)
 | .slice elem, .sl n sz lo0 len => do
   let s <- aZ (kU P elem) "an element's type"
   aV (Nat.beq s sz) "another size"
   let h <- qC len hi
   ka (ln (.il 0) l); ka (ln l h); ka (ln h len)
   return .sl n sz (Ad lo0 l) (Pr h l)
 | .slice elem, .bQ ks e => do
   let s <- aZ (kU P elem) "an element's type"
   aV (Nat.beq s ks.len) "another size"
   let h <- qC (gk .ab e) hi
   ka (ln (.il 0) l); ka (ln l h); ka (ln h (gk .ab e))
   return .bQ ks (yD e l h)
 | _, _ => .fail "slice: not taken"
def EK (P : Program) (t : TypeId) (x : SV) : Prog SV := do
 let u <- p9 P t
 match u with
 | .interface _ => .fail "makeInterface: concrete type"
 | _ => return .ei t x
def sf (want : Array (String × TypeId)) (got : Array Method) : List String := (want.toList.filter fun (name, sig) => !got.any fun m => m.name == name && m.sig == sig).map (·.1)
def B2 (P : Program) (x : SV) (asserted : TypeId) (commaOk : Bool) : Prog SV := do
 let u <- p9 P asserted
 let no : Prog SV := cond commaOk (do let z <- nN P asserted; return .fk [z, .bool (.bl false)]) (.fail "a type assertion that fails")
 let yes (v : SV) : Prog SV := cond commaOk (.ret (.fk [v, .bool (.bl true)])) (.ret v)
 match u, x with
 | .interface _, .dR => no
 | .interface want, .ei t v => do
   let i <- inf P t
   cond (sf want i.methods).isEmpty (yes x) no
 | _, .dR => no
 | _, .ei t v => cond (Nat.beq t asserted) (yes v) no
 | _, _ => .fail "type assertion: not taken"
inductive nY where
 | val (v : SV)
 | skip
 | call (f : FuncId) (args : List SV)
 | defer (fn : Fn) (cap args : List SV)
 deriving Inhabited
def zx (P : Program) (f : FuncId) (args : List SV) : Prog nY := do
 let fn <- aZ P.funcs[f]? "no such function"
 aV fn.body.isSome "a function without a body"
 return .call f args
def Kq (P : Program) (recv : SV) (name : String) (args : List SV) : Prog nY :=
 match recv with
 | .ei t v => do
   let i <- inf P t
   let m <- aZ (i.methods.find? (·.name == name)) "no such method"
   aV m.path.isEmpty "a method of an embedded field"
   let u <- p9 P t
   match m.func with
   | some (f, ptr) =>
     match u, ptr with
     | .pointer _, true => zx P f (v :: args)
     | .pointer _, false => .fail "a method of a value, by a pointer"
     | _, true => .fail "a pointer's method, of a value"
     | _, false => zx P f (v :: args)
   | none => .fail "an embedded interface's method"
 | _ => .fail "invoke: not taken"
def WC (P : Program) (t : TypeId) (x : SV) : Prog SV := do
 let u <- p9 P t
 match u, x with
 | .string, .str s => return .int .i64 (gk .size s)
 | .array n _, _ => return .int .i64 (.il (n : Nat))
 | .slice _, .bO => return .int .i64 (.il 0)
 | .slice _, .sl n sz lo len => do ka (ln (.il 0) len); return .int .i64 len
 | .map .., .cB => return .int .i64 (.il 0)
 | .map .., .map n => do
   let o <- e8 n
   match o with
   | .map _ _ _ sz _ => return .int .i64 sz
   | _ => .fail "len: no map"
 | ty, .bQ _ e =>
   match ty with
   | .slice _ => return .int .i64 (gk .ab e)
   | _ => .fail "len: not taken"
 | _, _ => .fail "len: not taken"
def yK (a i : E) : E :=
 match i with
 | .il 0 => a
 | i => .o2 .cJ (.o2 .n5 a i) (.il 1)
def jr : DK -> SV -> Option E
 | .int k, .int k' e => cond (fo k k') (some e) none
 | .bool, .bool e => some e
 | .str, .str e => some e
 | .sl ks, .bQ ks' e => cond (ks.same ks') (some e) none
 | .sl ks, .bO => some (.il 0)
 | .sl ks, .iG ks' e => cond (ks.same ks') (some e) none
 | .fp ks, .dH ks' e i 0 => cond (ks.same ks') (some (yK e i)) none
 | .ei t k, .ei t' x => cond (Nat.beq t t') (jr k x) none
 | .nilm, .cB => some (.il 0)
 | .ap T, .n9 T' e 0 => cond (Nat.beq T T') (some e) none
 | .ap _, .fZ => some (.il (-1))
 | _, _ => none
def AS : aJ -> List SV -> Option E
 | .nil, [] => some (.il 0)
 | .cons k r, x :: xs =>
   match jr k x, AS r xs with
   | some a, some b => some (.o2 .b9 a b)
   | _, _ => none
 | _, _ => none
def rowOf : List E -> E
 | [] => .il 0
 | e :: r => .o2 .b9 e (rowOf r)
def dJ (e i : E) (j : Nat) (es : List E) : Nat -> Nat -> List E
 | _, 0 => []
 | k, n + 1 => (cond (Nat.ble j k) (match es[k - j]? with | some x => x | none => .o2 (.cell k) e i) (.o2 (.cell k) e i)) :: dJ e i j es (k + 1) n
def ue (T : TypeId) : Prog (aJ × E) := do
 let o <- e8 (dL T)
 match o with
 | .ar T' ks e => do
   aV (Nat.beq T T') "another arena"
   return (ks, e)
 | _ => .fail "no arena"
mutual
def celP : Nat -> DK -> SV -> Prog E
 | 0, k, x => aZ (jr k x) "no data"
 | d + 1, k, x =>
   match k, x with
   | .ap T, .ptr n (.c 0) => do
     let o <- e8 n
     match o with
     | .fwd T' i => do
       aV (Nat.beq T T') "another arena"
       return i
     | .cells T' cs => do
       aV (Nat.beq T T') "another arena"
       let a <- ue T
       let es <- celsP d a.1 cs
       let a' <- ue T
       aV (a.1.same a'.1 && Nat.blt 0 a.1.len) "another arena"
       let o' <- e8 n
       match o' with
       | .cells T'' _ => do
         aV (Nat.beq T T'') "another object"
         iW (dL T) (.ar T a.1 (.o2 .fR a'.2 (rowOf es)))
         iW n (.fwd T (gk .ab a'.2))
         return gk .ab a'.2
       | _ => .fail "it leads to itself"
     | _ => .fail "a pointer to what"
   | .fp ks, .ptr n (.c 0) => do
     let o <- e8 n
     match o with
     | .NQ ks' e => do
       aV (ks.same ks') "another kind"
       return e
     | .cells _ cs => do
       let es <- celsP d ks cs
       let o' <- e8 n
       match o' with
       | .cells _ _ => do
         iW n (.NQ ks (rowOf es))
         return rowOf es
       | _ => .fail "it leads to itself"
     | _ => .fail "a pointer to what"
   | .ei t k, .ei t' x => do
     aV (Nat.beq t t') "another type"
     celP d k x
   | k, x => aZ (jr k x) "no data"
def celsP : Nat -> aJ -> List SV -> Prog (List E)
 | _, .nil, [] => .ret []
 | 0, _, _ => .fail "no data: too deep"
 | d + 1, .cons k r, x :: l => do
   let e <- celP d k x
   let es <- celsP d r l
   return e :: es
 | _, _, _ => .fail "no data: kinds"
end
def HZ : Nat := 60
def H4 (P : Program) (t : TypeId) (T : TypeId) (i : E) (j : Nat) : Prog SV := do
 ka (ln (.il 0) i)
 let d <- p9 P t
 let ti <- inf P t
 let a <- ue T
 match jQ d with
 | true => do
   let l <- aZ (oc a.1 a.2 i j ti.size) "no such cells"
   return .agg l
 | false => do
   let l <- aZ (oc a.1 a.2 i j 1) "no such cells"
   match l with
   | [v] => return v
   | _ => .fail "one cell wanted"
def Er (P : Program) (t : TypeId) (x : SV) : Prog SV :=
 match x with
 | .n9 T i j => H4 P t T i j
 | .ptr n (.c j) => do
   let o <- e8 n
   match o with
   | .fwd T i => H4 P t T i j
   | .NQ ks e => uA P t (.dH ks e (.il 0) j)
   | _ => uA P t x
 | _ => uA P t x
def j4 : aJ -> Nat -> aJ
 | ks, 0 => ks
 | .nil, _ => .nil
 | .cons _ r, j + 1 => j4 r j
def pO : aJ -> Nat -> aJ
 | _, 0 => .nil
 | .nil, _ => .nil
 | .cons k r, n + 1 => .cons k (pO r n)
def BC (P : Program) (t : TypeId) (T : TypeId) (i : E) (j : Nat) (v : SV) : Prog Unit := do
 ka (ln (.il 0) i)
 let ti <- inf P t
 aV (Nat.beq v.cells.length ti.size) "store: size"
 aV (v.cells.all SV.one) "store: a cell that is none"
 let a <- ue T
 let es <- celsP HZ (pO (j4 a.1 j) v.cells.length) v.cells
 let a' <- ue T
 aV (a.1.same a'.1 && Nat.ble (j + v.cells.length) a.1.len) "store: another arena"
 iW (dL T) (.ar T a.1 (.o2 .fy a'.2 (.o2 .b9 i (rowOf (dJ a'.2 i j es 0 a.1.len)))))
def b8 : aJ -> E -> Nat -> List ch
 | .nil, _, _ => []
 | .cons k r, e, j => .tc k e j :: b8 r e (j + 1)
def bC (a b : E) : E :=
 match a, b with
 | .il _, b => b
 | a, .il _ => a
 | a, b => .o2 .fR a b
def oW (ks : aJ) : List (List SV) -> Option E
 | [] => some (.il 0)
 | t :: r =>
   match AS ks t, oW ks r with
   | some a, some b => some (bC a b)
   | _, _ => none
def jW : aJ -> E -> Nat -> List ch -> Bool
 | .nil, _, _, [] => true
 | .cons k r, e, j, .tc k' e' j' :: cs => k.same k' && e.same e' && Nat.beq j j' && jW r e (j + 1) cs
 | _, _, _, _ => false
def Hp : List ch -> Option E
 | .tc _ e _ :: _ => some e
 | _ => none
def vn (ks : aJ) (cols : List ch) : Option E :=
 match Hp cols with
 | some e => cond (jW ks e 0 cols) (some e) none
 | none => cond cols.isEmpty (some (.il 0)) none
def M7 : List ch -> Option aJ
 | [] => some .nil
 | .tc k _ _ :: r => match M7 r with | some ks => some (.cons k ks) | none => none
 | _ => none
def Cr : aJ -> List SV -> Option (List E)
 | .nil, [] => some []
 | .cons k r, x :: l =>
   match jr k x, Cr r l with
   | some e, some es => some (e :: es)
   | _, _ => none
 | _, _ => none
def EZ (P : Program) (t : TypeId) (n : Nat) (i : E) (sz j : Nat) (v : SV) (T : TypeId) (sz' : Nat) (len : E) (cols : List ch) (e : E) : Prog Unit := do
 let ti <- inf P t
 aV (Nat.beq v.cells.length ti.size) "store: size"
 aV (v.cells.all SV.one) "store: a cell that is none"
 aV (Nat.beq sz sz') "another size"
 let ks <- aZ (M7 cols) "store: a row that is no tree"
 aV (jW ks e 0 cols && Nat.beq ks.len sz && Nat.ble (j + v.cells.length) ks.len) "store: a row that is no tree"
 ka (ln (.il 0) i)
 ka (J6 i len)
 ka (J6 i (gk .ab e))
 let es <- aZ (Cr (pO (j4 ks j) v.cells.length) v.cells) "store: no data"
 iW n (.row T sz len (b8 ks (.o2 .fy e (.o2 .b9 i (rowOf (dJ e i j es 0 ks.len)))) 0) [])
def Bj (P : Program) (t : TypeId) (x v : SV) : Prog Unit :=
 match x with
 | .n9 T i j => BC P t T i j v
 | .ptr n (.el i sz j) => do
   let o <- e8 n
   match o with
   | .row T sz' len cols tail =>
     match tail, Hp cols with
     | [], some e => EZ P t n i sz j v T sz' len cols e
     | _, _ => qB P t x v
   | _ => qB P t x v
 | .ptr n (.c j) => do
   let o <- e8 n
   match o with
   | .fwd T i => BC P t T i j v
   | _ => qB P t x v
 | _ => qB P t x v
def AL (P : Program) (t : TypeId) (x : SV) (f : Nat) : Prog SV :=
 match x with
 | .n9 T i j => do
   ka (ln (.il 0) i)
   let u <- p9 P t
   match u with
   | .struct fields => do
     let fd <- aZ fields[f]? "no such field"
     let sz <- aZ (kU P fd.type) "a field's type"
     match sz with
     | 0 => do
       let a <- ue T
       aV ((byteOfCell P P.depth T (j % P.cellsOf T)).isSome) "a field without cells"
       aV (Nat.blt 0 (P.cellsOf T)) "a field without cells"
       aV ((byteOfCell P P.depth T ((j + fd.offset) % P.cellsOf T)).isSome) "a field without cells"
       return .mw
     | _ + 1 => return .n9 T i (j + fd.offset)
   | _ => .fail "fieldAddr: struct"
 | .ptr n (.c j) => do
   let o <- e8 n
   match o with
   | .fwd T i => do
     let u <- p9 P t
     match u with
     | .struct fields => do
       let fd <- aZ fields[f]? "no such field"
       let sz <- aZ (kU P fd.type) "a field's type"
       match sz with
       | 0 => .fail "a field without cells"
       | _ + 1 => return .ptr n (.c (j + fd.offset))
     | _ => .fail "fieldAddr: struct"
   | _ => AO P t x f
 | _ => AO P t x f
def yw : TypeDesc -> Option KK
 | .int k => some (.int k)
 | .bool => some .bool
 | .string => some .str
 | _ => none
def lu : KK -> SV -> Bool
 | .int k, .int k' _ => fo k k'
 | .bool, .bool _ => true
 | .str, .str _ => true
 | _, _ => false
def s4 : SV -> SV -> Option E
 | .int _ a, .int _ b => some (jT .aN a b)
 | .bool a, .bool b => some (jT .beq a b)
 | .str a, .str b => some (jT .seq a b)
 | _, _ => none
def vW (key : SV) : List (SV × KV) -> Nat -> Prog (Option Nat)
 | [], _ => .ret none
 | (k, _) :: r, i => do
   let e <- aZ (s4 k key) "a key"
   let t <- zY e
   match t with
   | true => return some i
   | false => vW key r (i + 1)
def xZ : KV -> Prog (Option SV)
 | .no => .ret none
 | .yes x => .ret (some x)
 | .may b x => do
   let t <- zY b
   match t with
   | true => return some x
   | false => return none
def Ab (P : Program) (t : TypeId) : Prog (KK × TypeId) := do
 let u <- p9 P t
 match u with
 | .map kt el => do
   let d <- p9 P kt
   let kk <- aZ (yw d) "a map's keys"
   return (kk, el)
 | _ => .fail "a map wanted"
def AG (P : Program) (t : TypeId) (x key : SV) (commaOk : Bool) : Prog SV := do
 let d <- Ab P t
 aV (lu d.1 key) "a key's kind"
 let z <- nN P d.2
 let give (v : SV) (b : Bool) : Prog SV := cond commaOk (.ret (.fk [v, .bool (.bl b)])) (.ret v)
 match x with
 | .cB => give z false
 | .map n => do
   let o <- e8 n
   match o with
   | .map m _ kk _ known => do
     aV (dT kk d.1) "another map"
     let i <- vW key known 0
     match i with
     | some i => do
       let y <- aZ known[i]? "no such key"
       let q <- xZ y.2
       match q with
       | some v => give v true
       | none => give z false
     | none => do
       aV (Nat.beq m 0) "a key of which nothing is known"
       give z false
   | _ => .fail "no map"
 | _ => .fail "no map"
def Bp (P : Program) (t : TypeId) (x key v : SV) : Prog Unit := do
 let d <- Ab P t
 aV (lu d.1 key) "a key's kind"
 match x with
 | .map n => do
   let o <- e8 n
   match o with
   | .map m ix kk sz known => do
     aV (dT kk d.1) "another map"
     let i <- vW key known 0
     match i with
     | some i => do
       let y <- aZ known[i]? "no such key"
       let q <- xZ y.2
       match q with
       | some _ => iW n (.map m ix kk sz (known.set i (y.1, .yes v)))
       | none => iW n (.map m ix kk (Ad sz (.il 1)) (known.set i (y.1, .yes v)))
     | none => do
       aV (Nat.beq m 0) "a key of which nothing is known"
       iW n (.map m ix kk (Ad sz (.il 1)) (known ++ [(key, .yes v)]))
   | _ => .fail "no map"
 | _ => .fail "no map"
def BU (P : Program) (t : TypeId) (x key : SV) : Prog SV := do
 let d <- Ab P t
 aV (lu d.1 key) "a key's kind"
 match x with
 | .cB => return .fk []
 | .map n => do
   let o <- e8 n
   match o with
   | .map m ix kk sz known => do
     aV (dT kk d.1) "another map"
     let i <- vW key known 0
     match i with
     | some i => do
       let y <- aZ known[i]? "no such key"
       let q <- xZ y.2
       match q with
       | some _ => do
         iW n (.map m ix kk (Pr sz (.il 1)) (known.set i (y.1, .no)))
         return .fk []
       | none => return .fk []
     | none => do
       aV (Nat.beq m 0) "a key of which nothing is known"
       return .fk []
   | _ => .fail "no map"
 | _ => .fail "no map"
def Mj : SV -> Option E
 | .int _ e => some e
 | .bool e => some e
 | .str e => some e
 | _ => none
def th (ks : aJ) (e i : E) : Nat -> Nat -> Option (List SV)
 | _, 0 => some []
 | j, n + 1 =>
   match ks.get j, th ks e i (j + 1) n with
   | some k, some l => some (gE k (.o2 (.cell (j + 1)) e i) :: l)
   | _, _ => none
def Kp (a b : Bool) : Bool := cond a b (cond b false true)
def vG (x : SV) : Prog (Option (Nat × KK × Bool × aJ × E × Option Nat)) :=
 match x with
 | .map n => do
   let o <- e8 n
   match o with
   | .lj kk ag ks e it => return some (n, kk, ag, ks, e, it)
   | _ => return none
 | _ => .ret none
def xz (P : Program) (t : TypeId) (x key : SV) (commaOk : Bool) : Prog SV := do
 let m <- vG x
 match m with
 | none => AG P t x key commaOk
 | some (n, kk, ag, ks, e, it) => do
   let d <- Ab P t
   aV (lu d.1 key) "a key's kind"
   aV (dT kk d.1) "another map"
   let z <- nN P d.2
   let k <- aZ (Mj key) "a key"
   let give (v : SV) (b : Bool) : Prog SV := cond commaOk (.ret (.fk [v, .bool (.bl b)])) (.ret v)
   let b <- zY (ln (.il 0) (.o2 (.mf kk.q) e k))
   match b with
   | true => do
     let l <- aZ (th ks e (.o2 (.mf kk.q) e k) 0 ks.len) "a map's element"
     match ag with
     | true => give (.agg l) true
     | false =>
       match l with
       | [v] => give v true
       | _ => .fail "one cell wanted"
   | false => give z false
def sk (P : Program) (t : TypeId) (x key v : SV) : Prog Unit := do
 let m <- vG x
 match m with
 | none => Bp P t x key v
 | some (n, kk, ag, ks, e, it) => do
   let d <- Ab P t
   aV (lu d.1 key) "a key's kind"
   aV (dT kk d.1) "another map"
   aV (Kp ag v.kW) "a map's element"
   aV v.shut "a map's element"
   let k <- aZ (Mj key) "a key"
   let es <- celsP HZ ks v.cells
   let o <- e8 n
   match o with
   | .lj kk' ag' ks' e' _ => do
     aV (dT kk kk' && Kp ag ag' && ks.same ks') "another map"
     iW n (.lj kk ag ks (.o2 (.mp kk.q) e' (.o2 .b9 k (rowOf es))) none)
   | _ => .fail "no map"
def xM (P : Program) (t : TypeId) (x key : SV) : Prog SV := do
 let m <- vG x
 match m with
 | none => BU P t x key
 | some (n, kk, ag, ks, e, it) => do
   let d <- Ab P t
   aV (lu d.1 key) "a key's kind"
   aV (dT kk d.1) "another map"
   let k <- aZ (Mj key) "a key"
   iW n (.lj kk ag ks (.o2 (.md kk.q) e k) it)
   return .fk []
def Nk (P : Program) (t : TypeId) (x : SV) : Prog SV := do
 let m <- vG x
 match m with
 | none => WC P t x
 | some (_, _, _, _, e, _) => do
   let u <- p9 P t
   match u with
   | .map .. => return .int .i64 (gk .ab e)
   | _ => .fail "len: not taken"
def tR (P : Program) (nm : Nat) (t : TypeId) (x : SV) : Prog SV := do
 let u <- p9 P t
 match u, x with
 | .chan _ elem, .int _ (.il (.ofNat k)) => do
   let i <- inf P elem
   aV (Nat.ble k 9223372036854775807 && Nat.ble (i.bytes * k) 281474976710544) "makeChan: a size"
   oG nm (.chan (.bl false))
   return .chan nm
 | _, _ => .fail "makeChan: not taken"
def Et (x : SV) : Prog SV :=
 match x with
 | .chan n => do
   let o <- e8 n
   match o with
   | .chan c => do
     ka (l8 c)
     iW n (.chan (.bl true))
     return .fk []
   | _ => .fail "close: no channel"
 | _ => .fail "close: not taken"
def E4 (P : Program) (nm : Nat) (t : TypeId) (x : SV) : Prog SV := do
 let m <- vG x
 match m with
 | some (n, kk, ag, ks, e, _) => do
   let u <- p9 P t
   match u with
   | .map _ _ => do
     oG nm (.oa n kk (.il 0))
     iW n (.lj kk ag ks e (some nm))
     return .ptr nm (.c 0)
   | _ => .fail "range: no map"
 | none =>
   match x with
   | .map n => do
     let o <- e8 n
     match o with
     | .map m ix kk (.il 0) known => do
       let u <- p9 P t
       match u with
       | .map _ _ => do
         oG nm (.oa n kk (.il 0))
         iW n (.lj kk false (.cons .bool .nil) (.il 0) (some nm))
         return .ptr nm (.c 0)
       | _ => .fail "range: no map"
     | _ => .fail "range"
   | _ => .fail "range"
def Lf : E -> Bool
 | .il _ => true
 | _ => false
def LM (x : SV) : Prog SV :=
 match x with
 | .ptr n (.c 0) => do
   let o <- e8 n
   match o with
   | .oa m kk V => do
     let o2 <- e8 m
     match o2 with
     | .lj kk' ag ks e (some n') => do
       aV (Nat.beq n n' && dT kk kk' && Lf e) "next: a map that may have keys"
       return .fk [.bool (.bl false)]
     | _ => .fail "next: no map"
   | _ => .fail "next: no iterator"
 | _ => .fail "next"
def Lk : E -> Option E
 | .o2 .fR _ (.o2 .b9 k (.il 0)) => some k
 | .o2 .b9 k (.il 0) => some k
 | _ => none
def KK.sv : KK -> E -> SV
 | .int k, e => .int k e
 | .bool, e => .bool e
 | .str, e => .str e
def E6 (x : SV) : Prog SV :=
 match x with
 | .ptr n (.c 0) => do
   let o <- e8 n
   match o with
   | .oa m kk V => do
     let k <- aZ (Lk V) "entry: no step yet"
     let o2 <- e8 m
     match o2 with
     | .lj kk' ag ks e (some n') => do
       aV (Nat.beq n n' && dT kk kk') "entry: another map"
       let b <- zY (ln (.il 0) (.o2 (.mf kk.q) e k))
       aV b "entry: gone"
       let l <- aZ (th ks e (.o2 (.mf kk.q) e k) 0 ks.len) "a map's element"
       match ag with
       | true => return .fk [kk.sv k, .agg l]
       | false =>
         match l with
         | [v] => return .fk [kk.sv k, v]
         | _ => .fail "one cell wanted"
     | _ => .fail "entry: no map"
   | _ => .fail "entry: no iterator"
 | _ => .fail "entry"
def vQ (P : Program) (nm : Nat) (t : TypeId) (r : Option SV) : Prog SV := do
 let d <- Ab P t
 match r with
 | none => do
   oG nm (.map 0 (.il 0) d.1 (.il 0) [])
   return .map nm
 | some (.int _ _) => do
   oG nm (.map 0 (.il 0) d.1 (.il 0) [])
   return .map nm
 | _ => .fail "makeMap: a size"
def Ao (P : Program) (t : TypeId) (x : SV) (lo : Option SV) (hi mx : SV) : Prog SV := do
 let u <- p9 P t
 match u, x, lo, hi, mx with
 | .slice elem, .bQ ks e, none, .int _ h, .int _ m => do
   let s <- aZ (kU P elem) "an element's type"
   aV (Nat.beq s ks.len) "another size"
   aV (h.same m) "slice of three: bounds"
   ka (ln (.il 0) h); ka (ln h (gk .ab e))
   return .iG ks (yD e (.il 0) h)
 | _, _, _, _, _ => .fail "slice of three: not taken"
def q9 (P : Program) (nm : Nat) (t : TypeId) (x y : SV) : Prog SV := do
 let u <- p9 P t
 match u, x, y with
 | .slice elem, .int _ (.il (.ofNat n)), .int _ c => do
   let i <- inf P elem
   aV (Nat.blt 0 i.size) "makeSlice: elements without cells"
   aV (Nat.ble i.bytes 4096) "makeSlice: large elements"
   aV (Nat.ble n 65536) "makeSlice: long"
   ka (ln (.il (n : Nat)) c)
   ka (ln c (.il 2147483648))
   let z <- nN P elem
   aV (Nat.beq z.cells.length i.size) "makeSlice: the zero's size"
   oG nm (.row elem i.size (.il 0) [] (p6 n z.cells))
   return .sl nm i.size (.il 0) (.il (n : Nat))
 | _, _, _ => .fail "makeSlice: not taken"
def iV (len : E) (tail : List (List SV)) : E := Ad len (.il (tail.length : Nat))
def Pz (sz : Nat) (x : SV) : Prog (List (List SV)) :=
 match x with
 | .bO => .ret []
 | .sl n sz' lo len => do
   aV (Nat.beq sz sz') "append: sizes"
   let o <- e8 n
   match o with
   | .row _ sz'' (.il 0) [] tail => do
     aV (Nat.beq sz sz'') "append: sizes"
     let a <- aZ (nat? lo) "append: from"
     let k <- aZ (nat? len) "append: how many"
     aV (Nat.beq ((tail.drop a).take k).length k) "append: out of range"
     aV (((tail.drop a).take k).flatten.all SV.one) "append: open values"
     return (tail.drop a).take k
   | _ => .fail "append: of what"
 | _ => .fail "append: of what"
def Bx (P : Program) (nm : Nat) (elem : TypeId) (sz : Nat) (s : SV) (ks : aJ) (e : E) : Prog SV := do
 aV (Nat.beq ks.len sz) "append: sizes"
 let b <- zY (jT .aN (gk .ab e) (.il 0))
 match s with
 | .bO =>
   match b with
   | true => return .bO
   | false => do
     ka (ln (gk .ab e) (.il 2147483648))
     oG nm (.row elem sz (gk .ab e) (b8 ks e 0) [])
     return .sl nm sz (.il 0) (gk .ab e)
 | .iG ks' a => do
   aV (ks.same ks') "append: kinds"
   match b with
   | true => return .iG ks' a
   | false => do
     ka (ln (gk .ab (bC a e)) (.il 2147483648))
     oG nm (.row elem sz (gk .ab (bC a e)) (b8 ks (bC a e) 0) [])
     return .sl nm sz (.il 0) (gk .ab (bC a e))
 | .sl n sz' (.il 0) len => do
   aV (Nat.beq sz' sz) "append: sizes"
   let o <- e8 n
   match o with
   | .row T sz2 rl cols tail => do
     aV (Nat.beq sz2 sz) "append: sizes"
     aV (Nat.beq T elem) "append: types"
     let a <- aZ (vn ks cols) "append: a tree to what"
     let tl <- aZ (oW ks tail) "append: a tree to what"
     ka (jT .aN rl (gk .ab a))
     ka (jT .aN len (iV rl tail))
     match b with
     | true => return .sl n sz' (.il 0) len
     | false => do
       ka (ln (gk .ab (bC (bC a tl) e)) (.il 2147483648))
       iW n .gone
       oG nm (.row elem sz (gk .ab (bC (bC a tl) e)) (b8 ks (bC (bC a tl) e) 0) [])
       return .sl nm sz (.il 0) (gk .ab (bC (bC a tl) e))
   | _ => .fail "append: a tree to what"
 | _ => .fail "append: a tree to what"
def SW : SV -> Option (aJ × E)
 | .bQ ks e => some (ks, e)
 | _ => none
def BE (P : Program) (nm : Nat) (t : TypeId) (s x : SV) : Prog SV := do
 let u <- p9 P t
 match u with
 | .slice elem => do
   let i <- inf P elem
   aV (Nat.blt 0 i.size) "append: elements without cells"
   aV (Nat.ble i.bytes 4096) "append: large elements"
   aV (Nat.ble i.size 4096) "append: large elements"
   let z <- nN P elem
   aV (Nat.beq z.cells.length i.size) "append: the zero's size"
   match SW x with
   | some (ks, e) => Bx P nm elem i.size s ks e
   | none => do
   let new <- Pz i.size x
   match s with
   | .iG ks a =>
     match new with
     | [] => return .iG ks a
     | _ :: _ => .fail "append: to what"
   | .bO =>
     match new with
     | [] => return .bO
     | _ :: _ => do
       aV (Nat.blt new.length 1048576) "append: many"
       oG nm (.row elem i.size (.il 0) [] new)
       return .sl nm i.size (.il 0) (.il (new.length : Nat))
   | .sl n sz (.il 0) len => do
     aV (Nat.beq sz i.size) "append: sizes"
     let o <- e8 n
     match o with
     | .row T sz' rl cols tail => do
       aV (Nat.beq sz' i.size) "append: sizes"
       aV (Nat.beq T elem) "append: types"
       match tail with
       | [] => do
         ka (ln (.il 0) len)
         ka (leS len rl)
         ka (ln len (.il 2147483648))
         aV (Nat.blt new.length 1048576) "append: many"
         iW n .gone
         oG nm (.row elem i.size len cols new)
         return .sl nm i.size (.il 0) (iV len new)
       | _ :: _ => do
         ka (jT .aN len (iV rl tail))
         ka (ln (.il 0) rl)
         ka (ln (iV rl tail) (.il 2147483648))
         aV (Nat.blt new.length 1048576) "append: many"
         iW n .gone
         oG nm (.row elem i.size rl cols (tail ++ new))
         return .sl nm i.size (.il 0) (iV rl (tail ++ new))
     | _ => .fail "append: to what"
   | _ => .fail "append: to what"
 | _ => .fail "append: slice"
def wA (P : Program) (nm : Nat) (b : Builtin) (argTypes : List TypeId) (args : List SV) : Prog nY :=
 match b, argTypes, args with
 | .len, [t], [x] => do let v <- Nk P t x; return .val v
 | .append, [t, u], [s, x] => do
   let d <- p9 P u
   match d with
   | .slice _ => do let v <- BE P nm t s x; return .val v
   | _ => .fail "append: of a text"
 | .close, _, [x] => do let v <- Et x; return .val v
 | .delete, [t, _], [x, k] => do let v <- xM P t x k; return .val v
 | .min, _, [.int k a, .int k' b] => return .val (.int k (jT .mn a b))
 | .max, _, [.int k a, .int k' b] => return .val (.int k (jT .mx a b))
 | _, _, _ => .fail "a builtin that is not taken"
def fe (sl : List SV) : Operand -> Option SV
 | .tmp t => some (sl[t]?.getD bG)
 | .const v => ofVal v
 | .global _ => none
 | .func f => some (.fn (.func f) [] [])
def MH (ev : Operand -> Option SV) : List Operand -> Prog (List SV)
 | [] => .ret []
 | x :: r => do
   let v <- aZ (ev x) "an operand"
   let l <- MH ev r
   return v :: l
def RL (ev : Operand -> Option SV) : List (Nat × Operand) -> Prog (List (Nat × SV))
 | [] => .ret []
 | (i, x) :: r => do
   let v <- aZ (ev x) "an operand"
   let l <- RL ev r
   return (i, v) :: l
def J0 (ev : Operand -> Option SV) : Option Operand -> Prog (Option SV)
 | none => .ret none
 | some x => do
   let v <- aZ (ev x) "an operand"
   return some v
def da (ev : Operand -> Option SV) (x : Operand) : Prog SV := aZ (ev x) "an operand"
def aaD : Option (FuncId × Bool) -> Bool
 | some (_, true) => true
 | _ => false
def gd (p : Prog SV) : Prog nY := do let v <- p; return .val v
def HN (P : Program) (nm : Nat) (ev : Operand -> Option SV) (c : Call) : Prog nY := do
 let args <- MH ev c.args.toList
 match c.callee with
 | .builtin b => wA P nm b c.argTypes.toList args
 | .invoke r name => do
   let x <- da ev r
   Kq P x name args
 | .value f => do
   let x <- da ev f
   match x with
   | .fn (.func g) first cap => zx P g (first ++ args ++ cap)
   | _ => .fail "a call of what"
def BV (ev : Operand -> Option SV) (c : Call) : Prog nY := do
 let args <- MH ev c.args.toList
 match c.callee with
 | .value f => do
   let x <- da ev f
   match x with
   | .fn (.func g) first cap => return .defer (.func g) cap (first ++ args)
   | _ => .fail "a deferred call of what"
 | _ => .fail "a deferred call of what"
def WW : Op -> String
 | .makeSlice .. => "makeSlice" | .mapEntry .. => "mapEntry" | .entryStore .. => "entryStore" | .next .. => "next" | .panic _ => "panic" | .slice .. => "slice of three"
 | .sliceToArrayPointer .. => "sliceToArrayPointer" | .ready _ => "ready" | .waits _ => "waits" | .go _ => "go" | .send .. => "send" | .recv .. => "recv" | .select .. => "select" | _ => "an operation"
def lk (P : Program) (nm : Nat) (ev : Operand -> Option SV) (op : Op) : Prog nY :=
 match op with
 | .move x => gd (da ev x)
 | .assign x => gd (da ev x)
 | .pick c a b => do
   let x <- da ev c
   match x with
   | .bool e => do
     let t <- zY e
     gd (da ev (cond t a b))
   | _ => .fail "pick: bool"
 | .alloc t => gd (do let z <- nN P t; Ni P nm t z)
 | .box t x => gd (do let v <- da ev x; Ni P nm t v)
 | .build t parts => gd (do let l <- RL ev parts.toList; Gg P t l)
 | .buildSlice t n parts => gd (do let l <- RL ev parts.toList; oJ P nm t n l)
 | .load t a => gd (do let x <- da ev a; Er P t x)
 | .store t a x => do
   let p <- da ev a
   let v <- da ev x
   Bj P t p v
   return .skip
 | .nilCheck x => gd (do
   let v <- da ev x
   match v with
   | .ptr .. => return v
   | .dH .. => return v
   | .n9 _ i _ => do
     ka (ln (.il 0) i)
     return v
   | .mw => return v
   | .ei .. => return v
   | .fn (.func _) _ _ => return v
   | .fn (.method name) [.ei t x] c => do
     let i <- inf P t
     let m <- aZ (i.methods.find? (·.name == name)) "no such method"
     aV m.path.isEmpty "a method of an embedded field"
     aV (aaD m.func) "a method's value, of a value"
     return v
   | _ => .fail "nil, or not taken")
 | .binOp o t x y _ => gd (do
   let a <- da ev x
   let b <- da ev y
   Ej P o t x y a b
   Yc P o t a b)
 | .unOp o _ x => gd (do let v <- da ev x; unS o v)
 | .convert s d x => gd (do let v <- da ev x; LO P s d v)
 | .makeInterface t x => gd (do let v <- da ev x; EK P t v)
 | .makeFunc fn first cap => gd (do
   let a <- MH ev first.toList
   let c <- MH ev cap.toList
   return .fn fn a c)
 | .slice t x lo (some hi) (some mx) => gd (do
   let v <- da ev x
   let l <- J0 ev lo
   let h <- da ev hi
   let m <- da ev mx
   Ao P t v l h m)
 | .slice t x lo hi none => gd (do
   let v <- da ev x
   let l <- J0 ev lo
   let h <- J0 ev hi
   BH P t v l h)
 | .fieldAddr t x f => gd (do let v <- da ev x; AL P t v f)
 | .field t x f => gd (do let v <- da ev x; E2 P t v f)
 | .indexAddr t x i => gd (do let v <- da ev x; let j <- da ev i; FX P t v j)
 | .index t x i => gd (do let v <- da ev x; let j <- da ev i; EX P t v j)
 | .makeChan t s => gd (do let v <- da ev s; tR P nm t v)
 | .makeMap t r => gd (do let l <- J0 ev r; vQ P nm t l)
 | .entry x => gd (do let v <- da ev x; E6 v)
 | .range t x => gd (do let v <- da ev x; E4 P nm t v)
 | .next x false => gd (do let v <- da ev x; LM v)
 | .makeSlice t l c => gd (do let x <- da ev l; let y <- da ev c; q9 P nm t x y)
 | .lookup t x i ok => gd (do let v <- da ev x; let j <- da ev i; xz P t v j ok)
 | .mapUpdate t m k x => do
   let a <- da ev m
   let b <- da ev k
   let c <- da ev x
   sk P t a b c
   return .skip
 | .insert t m k x => do
   let a <- da ev m
   let b <- da ev k
   let c <- da ev x
   sk P t a b c
   return .skip
 | .typeAssert x _ a ok => gd (do let v <- da ev x; B2 P v a ok)
 | .extract x i => gd (do
   let v <- da ev x
   match v with
   | .fk l => aZ l[i]? "extract"
   | _ => .fail "extract")
 | .call c => HN P nm ev c
 | .defer c => BV ev c
 | op => .fail ("not taken: " ++ WW op)
end Go.Sx
