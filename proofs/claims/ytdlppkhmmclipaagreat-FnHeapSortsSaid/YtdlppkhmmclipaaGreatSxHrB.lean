/-
  A STORE WHOSE OBJECTS EXPIRE: listing and replacing keep it as the model is.
-/
import Derived.Test.YtdlppkhmmclipaaGreatSxHrA
namespace Go.Proofs.YtdlppkhmmclipaaGreat.sxObj
open Go.Sx
set_option linter.unusedVariables false
set_option maxRecDepth 100000
end Go.Proofs.YtdlppkhmmclipaaGreat.sxObj
namespace Go.Proofs.YtdlppkhmmclipaaGreat.sxObj
open Go.Sx Go.RowKit Go.Proofs.YtdlppkhmmclipaaGreat
set_option linter.unusedVariables false
set_option linter.unusedSimpArgs false
set_option maxRecDepth 100000
theorem Of {l : Dv} {k : ByteArray} {x : Row} : (fN l k x).length <= l.T.length + 1 := by
 unfold fN; rw [List.length_append, List.length_cons, List.length_take, List.length_drop]; split <;> omega
theorem C5 {l : Dv} {k : ByteArray} : (b8 l k).length <= l.T.length := by
 unfold b8; split
 ·rw [List.length_append, List.length_take, List.length_drop]; omega
 ·exact Nat.le_refl _
section
variable {l m : Dv} {now ttl : Int} {only : Dv} {all : Bool}
end
section
variable {o : Env}
end
end Go.Proofs.YtdlppkhmmclipaaGreat.sxObj
namespace Go.Proofs.YtdlppkhmmclipaaGreat.sxObj
open Go.Sx
set_option linter.unusedVariables false
end Go.Proofs.YtdlppkhmmclipaaGreat.sxObj
namespace Go.Proofs.YtdlppkhmmclipaaGreat.sxObj
open Go.Sx Go.RowKit Go.Proofs.YtdlppkhmmclipaaGreat
set_option linter.unusedVariables false
set_option linter.unusedSimpArgs false
set_option maxRecDepth 100000
theorem J6 {l : Dv} (h : sV l) : ew l.T := fun r hr => by
 obtain ⟨n, hn, rfl⟩ := mem_row hr; obtain ⟨a, b, _, _, c, _⟩ := h.1 n hn; exact ⟨a, b, c.2⟩
theorem mU : ew (Dv.i 0).T := fun _ q => by cases q
structure ahN (p : Row) : Prop where
 k : iD (du p)
 l : ew (cc p 9).T
 n : (cc p 9).T.length <= 20
 t0 : 0 <= (cc p 10).I
 t1 : (cc p 10).I <= 1099511627776
structure ahs (s : Sp) (n : Nat) : Prop where
 k : ew s.S
 l : s.S.length <= 20 * n
 t : Im (.t s.M)
 t0 : 0 <= s.now
 t1 : s.now <= 1099511627776 * n
section
variable {o : Env}
end
def dg (r : Row) : Row := [cc r 0]
def Is (l : List Row) : Prop := l.Pairwise fun a b => (cc a 0).S ≠ (cc b 0).S
def tlT (ks m : Dv) : List Row := ks.T.map fun k => [cc (row m (aP .s (cc k 0) m.T).toNat) 1]
def acm (ks m : Dv) : Prop := ∀ k ∈ ks.T, 0 <= aP .s (cc k 0) m.T
def zN (l : Dv) (n : Nat) : Dv := cc (row (cc (row l n) 0) 0) 3
def V6 (m : List Row) (k : Dv) : Row := row (cc (row (.t m) (aP .s k m).toNat) 1) 0
def Sm (m : List Row) (k : Dv) : Prop := 0 <= aP .s k m
def Lv (m : List Row) (now ttl : Int) (k : Dv) : Prop := 0 < ttl /\ ((cc (V6 m k) 1).B = false \/ ttl < now - (cc (V6 m k) 2).I)
noncomputable def BA (l m : Dv) (now ttl : Int) : Nat -> List Row
 | 0 => m.T
 | n + 1 => if dec (Sm (BA l m now ttl n) (zN l n) /\ Lv (BA l m now ttl n) now ttl (zN l n)) = true then nW .s (BA l m now ttl n) (zN l n) else BA l m now ttl n
def agi (l m : Dv) (now ttl : Int) (j : Nat) : Prop := Sm (BA l m now ttl j) (zN l j) /\ ¬ Lv (BA l m now ttl j) now ttl (zN l j)
noncomputable def aeU (l m : Dv) (now ttl : Int) (n : Nat) : List Nat := (List.range n).filter fun j => dec (agi l m now ttl j)
noncomputable def UZ (l m : Dv) (now ttl : Int) : List Row := (aeU l m now ttl l.T.length).map fun j => [cc (V6 (BA l m now ttl j) (zN l j)) 0]
def PS (m : List Row) : Prop := ∀ r ∈ m, 0 <= (cc (row (cc r 1) 0) 2).I /\ (cc (row (cc r 1) 0) 2).I <= 1125899906842624
def jD (l : Dv) (n : Nat) : Row := row (cc (row l n) 0) 0
def db (l : Dv) (n : Nat) : Dv := .s (iP (cc (jD l n) 0).S (cc (jD l n) 1).S)
def Tu (any now key : Dv) : Row := [key, .t [[any, .b true, now, key]]]
def rqT (l now : Dv) : Nat -> List Row
 | 0 => []
 | n + 1 => jB .s (rqT l now n) (Tu (cc (row l n) 0) now (db l n))
def qa (l : Dv) (j : Nat) : Prop := (cc (jD l j) 6).B = false
def Aq (l : Dv) : Prop := ∀ j, j < l.T.length -> Qf (cc (jD l j) 0) (cc (jD l j) 1) (cc (jD l j) 4)
def aV (M : List Row) (o : Row) : Row := Tu (.t [nine o]) (.i (atV (.t M) (kS o))) (.s (kS o))
def X3 (S M : List Row) : List Row := S.map (aV M)
noncomputable def acG (ops : Dv) : Nat -> ByteArray
 | 0 => ⟨[].toArray⟩
 | n + 1 => if (cc (row ops n) 0).I = 2 /\ (cc (row ops n) 7).B = false then (cc (row ops n) 4).S else if (cc (row ops n) 0).I = 3 /\ dec (ep (qb (cc (row ops n) 9)) (cc (row ops n) 9).T.length) = true then ⟨[].toArray⟩ else acG ops n
theorem af6 {Q : Nat -> Prop} {n r : Nat} (hr : r <= gN Q n) (hl : r < n) (h : ¬ Q r) : gN Q n = r := by
 refine Nat.le_antisymm (Nat.le_of_not_lt fun cW => ?_) hr; have h2 := bP (show r < stop (fun j => !dec (Q j)) n from cW); rw [da.2 h] at h2; cases h2
noncomputable def Zv (c : Nat) (d : Dv) : Dv :=
 match c with
 | 200 => .t ((ar d 0).T.map dg)
 | 201 => .b (dec (Is (ar d 0).T))
 | 202 => .t (tlT (ar d 0) (ar d 1))
 | 203 => .b (dec (acm (ar d 0) (ar d 1)))
 | 204 => .t (BA (ar d 0) (ar d 1) (ar d 2).I (ar d 3).I (ar d 4).I.toNat)
 | 205 => .t (UZ (ar d 0) (ar d 1) (ar d 2).I (ar d 3).I)
 | 206 => .i ((aeU (ar d 0) (ar d 1) (ar d 2).I (ar d 3).I (ar d 4).I.toNat).length : Nat)
 | 207 => .t (BA (ar d 0) (ar d 1) (ar d 2).I (ar d 3).I (ar d 0).T.length)
 | 208 => .b (dec (PS (ar d 0).T))
 | 210 => .t (rqT (ar d 0) (ar d 1) (ar d 2).I.toNat)
 | 211 => .b (dec (¬ ep (qa (ar d 0)) (ar d 0).T.length))
 | 212 => .i (gN (qa (ar d 0)) (ar d 0).T.length : Nat)
 | 213 => .b (dec (Aq (ar d 0)))
 | 214 => .t (rqT (ar d 0) (ar d 1) (ar d 0).T.length)
 | 215 => .t (X3 (Gw (ar d 0) (ar d 1).I (ar d 2).I.toNat).S (Gw (ar d 0) (ar d 1).I (ar d 2).I.toNat).M)
 | 216 => .s (acG (ar d 0) (ar d 2).I.toNat)
 | _ => .i 0
def OV (o : Env) : Prop := ∀ c d, 200 <= c -> c < 260 -> o.uf c d = Zv c d
theorem OV.aE {o o' : Env} (h : OV o) (e : o'.uf = o.uf) : OV o' := fun c d h1 h2 => by rw [e]; exact h c d h1 h2
section
variable {o : Env} (h : OV o) (d : Dv)
include h
theorem OV.RU : o.uf 211 d = .b (dec (¬ ep (qa (ar d 0)) (ar d 0).T.length)) := h 211 d (by decide) (by decide)
theorem OV.JI : o.uf 212 d = .i (gN (qa (ar d 0)) (ar d 0).T.length : Nat) := h 212 d (by decide) (by decide)
theorem OV.PQ : o.uf 213 d = .b (dec (Aq (ar d 0))) := h 213 d (by decide) (by decide)
theorem OV.QB : o.uf 200 d = .t ((ar d 0).T.map dg) := h 200 d (by decide) (by decide)
theorem OV.KJ : o.uf 201 d = .b (dec (Is (ar d 0).T)) := h 201 d (by decide) (by decide)
end
theorem nr (r : Row) : r.headD (.i 0) = cc r 0 := by cases r <;> rfl
theorem keys_perm {l : List Row} {vis : List Dv} (ha : Is l) (hv : vis.Pairwise fun a b => KK.str.dv a ≠ KK.str.dv b) (h1 : ∀ k ∈ vis, ∃ r ∈ l, r.headD (.i 0) = k) (h2 : ∀ r ∈ l, ∃ k ∈ vis, KK.str.dv k = KK.str.dv (r.headD (.i 0))) :
    (vis.map fun k => [k]).Perm (l.map dg) := by
 have e : l.map dg = (l.map fun r => r.headD (.i 0)).map fun k => [k] := by
  rw [List.map_map]; exact List.map_congr_left fun r _ => by show [cc r 0] = [r.headD (.i 0)]; rw [nr]
 rw [e]; refine List.Perm.map _ ((List.perm_ext_iff_of_nodup ?_ ?_).2 fun k => ⟨fun hk => ?_, fun hk => ?_⟩)
 ·exact hv.imp fun hne he => hne (by rw [he])
 ·refine List.pairwise_map.2 (ha.imp fun {a b} hne he => hne ?_); rw [nr, nr] at he; rw [he]
 ·obtain ⟨r, hr, rfl⟩ := h1 k hk; exact List.mem_map.2 ⟨r, hr, rfl⟩
 ·obtain ⟨r, hr, rfl⟩ := List.mem_map.1 hk; obtain ⟨k', hk', he⟩ := h2 r hr; obtain ⟨r', hr', rfl⟩ := h1 k' hk'
  have hs : (cc r' 0).S = (cc r 0).S := by
   rw [nr, nr] at he; have he : Value.string (cc r' 0).S = Value.string (cc r 0).S := he; injection he
  by_cases hrr : r' = r
  ·rw [<- hrr]; exact hk'
  ·exfalso; obtain ⟨i, hi, e1⟩ := List.mem_iff_getElem.1 hr; obtain ⟨j, hj, e2⟩ := List.mem_iff_getElem.1 hr'; rcases Nat.lt_trichotomy i j with hij | hij | hij
   ·have := List.pairwise_iff_getElem.1 ha i j hi hj hij; rw [e1, e2] at this; exact this hs.symm
   ·subst hij; exact hrr (e2.symm.trans e1)
   ·have := List.pairwise_iff_getElem.1 ha j i hj hi hij; rw [e1, e2] at this; exact this hs
theorem Ot {l : List Row} {vis : List Dv} (hv : vis.Pairwise fun a b => KK.str.dv a ≠ KK.str.dv b) (h1 : ∀ k ∈ vis, ∃ r ∈ l, r.headD (.i 0) = k) : vis.length <= l.length := by
 induction l generalizing vis with
 | nil =>
   cases vis with
   | nil => exact Nat.le_refl _
   | cons k _ => obtain ⟨r, hr, _⟩ := h1 k (List.mem_cons_self ..); cases hr
 | cons x l ih =>
   have h3 : ∀ v : List Dv, (v.Pairwise fun a b => KK.str.dv a ≠ KK.str.dv b) -> v.length <= (v.filter fun k => dec (k ≠ x.headD (.i 0))).length + 1 := fun v hv => by
    induction v with
    | nil => exact Nat.zero_le _
    | cons a v ihv =>
      rw [List.pairwise_cons] at hv
      by_cases ha : a = x.headD (.i 0)
      ·have : v.filter (fun k => dec (k ≠ x.headD (.i 0))) = v := List.filter_eq_self.2 fun b hb => aw.2 fun e => hv.1 b hb (by rw [ha, e])
       rw [List.filter_cons, this, if_neg (by rw [aw]; exact fun q => q ha)]
       exact Nat.le_refl _
      ·rw [List.filter_cons, if_pos (aw.2 ha)]; exact Nat.succ_le_succ (ihv hv.2)
   have h4 := ih (vis := vis.filter fun k => dec (k ≠ x.headD (.i 0))) (hv.filter _) (fun k hk => by
    obtain ⟨hk, hne⟩ := List.mem_filter.1 hk; obtain ⟨r, hr, e⟩ := h1 k hk; rcases List.mem_cons.1 hr with rfl | hr
    ·exact absurd e.symm (aw.1 hne)
    ·exact ⟨r, hr, e⟩)
   have := h3 vis hv; rw [List.length_cons]; omega
def ky (r : Row) : List UInt8 := (r.headD (.i 0)).S.toList
def oC (l : List Row) : Prop := l.Pairwise fun a b => ky a ≠ ky b
theorem kq {r : Row} {k : Dv} : KQ.s.eq (r.headD (.i 0)) k = true ↔ ky r = k.S.toList := by
 unfold KQ.eq ky; exact beq_iff_eq
theorem mQ {k : Dv} : ∀ {l : List Row} {i : Nat}, dL .s k l = some i -> ∃ h : i < l.length, ky l[i] = k.S.toList
 | r :: l, i, h => by
   unfold dL at h; cases hq : KQ.s.eq (r.headD (.i 0)) k with
   | true => rw [hq] at h; cases h; exact ⟨Nat.succ_pos _, kq.1 hq⟩
   | false =>
     rw [hq] at h; simp only [cond_false, Option.map_eq_some_iff] at h; obtain ⟨j, hj, rfl⟩ := h; obtain ⟨h1, h2⟩ := mQ hj; exact ⟨Nat.succ_lt_succ h1, h2⟩
theorem mB {k : Dv} : ∀ {l : List Row}, dL .s k l = none -> ∀ r ∈ l, ky r ≠ k.S.toList
 | r :: l, h, x, hx => by
   unfold dL at h; cases hq : KQ.s.eq (r.headD (.i 0)) k with
   | true => rw [hq] at h; cases h
   | false =>
     rw [hq] at h; simp only [cond_false, Option.map_eq_none_iff] at h; rcases List.mem_cons.1 hx with rfl | hx
     ·exact fun e => by rw [kq.2 e] at hq; cases hq
     ·exact mB h x hx
theorem sb {l : List Row} (h : oC l) {i j : Nat} (hi : i < l.length) (hj : j < l.length) (e : ky l[i] = ky l[j]) : i = j := by
 rcases Nat.lt_trichotomy i j with hl | hl | hl
 ·exact absurd e (List.pairwise_iff_getElem.1 h i j hi hj hl)
 ·exact hl
 ·exact absurd e.symm (List.pairwise_iff_getElem.1 h j i hj hi hl)
theorem Bf {l : List Row} (h : oC l) {x r : Row} : r ∈ jB .s l x ↔ r = x \/ r ∈ l /\ ky r ≠ ky x := by
 unfold jB; cases hf : dL .s (x.headD (.i 0)) l with
 | none =>
   have hn := mB hf; simp only [List.mem_append, List.mem_singleton]; exact ⟨fun q => q.elim (fun q => .inr ⟨q, hn r q⟩) .inl, fun q => q.elim .inr fun q => .inl q.1⟩
 | some i =>
   obtain ⟨hi, he⟩ := mQ hf; simp only [List.mem_iff_getElem, List.length_set]; constructor
   ·rintro ⟨j, hj, rfl⟩; rw [List.getElem_set]; split
    ·exact .inl rfl
    ·rename_i hne; exact .inr ⟨⟨j, hj, rfl⟩, fun e => hne (sb h hi hj (he.trans e.symm))⟩
   ·rintro (rfl | ⟨⟨j, hj, rfl⟩, hne⟩)
    ·exact ⟨i, hi, by rw [List.getElem_set_self]⟩
    ·refine ⟨j, hj, ?_⟩; rw [List.getElem_set_ne]; intro e; subst e; exact hne he
theorem wb {l : List Row} (h : oC l) {x : Row} : oC (jB .s l x) := by
 unfold jB; cases hf : dL .s (x.headD (.i 0)) l with
 | none =>
   refine List.pairwise_append.2 ⟨h, List.pairwise_singleton _ _, fun a ha b hb => ?_⟩; rw [List.mem_singleton.1 hb]; exact mB hf a ha
 | some i =>
   obtain ⟨hi, he⟩ := mQ hf; refine List.pairwise_iff_getElem.2 fun a b ha hb hab => ?_; rw [List.length_set] at ha hb; rw [List.getElem_set, List.getElem_set]; split
   ·split
    ·omega
    ·rename_i e hne; exact fun q => hne (sb h hi hb (he.trans q))
   ·split
    ·rename_i hne e; exact fun q => hne (sb h hi ha (he.trans q.symm))
    ·exact List.pairwise_iff_getElem.1 h a b ha hb hab
theorem Ik {l : List Row} (h : oC l) {k : Dv} {r : Row} : r ∈ nW .s l k ↔ r ∈ l /\ ky r ≠ k.S.toList := by
 unfold nW; cases hf : dL .s k l with
 | none => exact ⟨fun q => ⟨q, mB hf r q⟩, fun q => q.1⟩
 | some i =>
   obtain ⟨hi, he⟩ := mQ hf; simp only [List.mem_eraseIdx_iff_getElem]; constructor
   ·rintro ⟨j, hj, hne, rfl⟩; exact ⟨List.getElem_mem _, fun e => hne (sb h hj hi (e.trans he.symm))⟩
   ·rintro ⟨hm, hne⟩; obtain ⟨j, hj, rfl⟩ := List.mem_iff_getElem.1 hm; exact ⟨j, hj, fun e => by subst e; exact hne he, rfl⟩
theorem Cw {l : List Row} (h : oC l) {k : Dv} : oC (nW .s l k) := by
 unfold nW; split
 ·exact h.sublist (List.eraseIdx_sublist ..)
 ·exact h
theorem ed {l : List Row} {k : Dv} : 0 <= aP .s k l ↔ ∃ r ∈ l, ky r = k.S.toList := by
 unfold aP; cases hf : dL .s k l with
 | none => exact ⟨fun q => absurd q (by decide), fun ⟨r, hr, e⟩ => absurd e (mB hf r hr)⟩
 | some i =>
   obtain ⟨hi, he⟩ := mQ hf; exact ⟨fun _ => ⟨_, List.getElem_mem hi, he⟩, fun _ => Int.natCast_nonneg i⟩
theorem YQ {l : List Row} (h : oC l) {k : Dv} {r : Row} (hr : r ∈ l) (e : ky r = k.S.toList) : row (.t l) (aP .s k l).toNat = r := by
 unfold aP; cases hf : dL .s k l with
 | none => exact absurd e (mB hf r hr)
 | some i =>
   obtain ⟨hi, he⟩ := mQ hf; obtain ⟨j, hj, rfl⟩ := List.mem_iff_getElem.1 hr; have := sb h hj hi (e.trans he.symm); subst this; unfold row; show (l[j]?).getD [] = _; rw [List.getElem?_eq_getElem hj]; rfl
theorem KO : oC [] := List.Pairwise.nil
theorem bo {l : List Row} (h : oC l) : Is l := h.imp fun {a b} hne he => hne (by
 unfold ky; rw [nr, nr, he])
theorem UO (a b : List UInt8) : a < b \/ a = b \/ b < a := by
 by_cases h : a < b
 ·exact .inl h
 by_cases h2 : b < a
 ·exact .inr (.inr h2)
 exact .inr (.inl (List.le_antisymm (List.not_lt.1 h2) (List.not_lt.1 h)))
def Lj (l : List Row) : Prop := l.Pairwise fun a b => kl a < kl b
theorem UK {l : List Row} (h : Lj l) {i j : Nat} (hi : i < l.length) (hj : j < l.length) (e : kl l[i] = kl l[j]) : i = j := by
 rcases Nat.lt_trichotomy i j with hl | hl | hl
 ·have := List.pairwise_iff_getElem.1 h i j hi hj hl; rw [e] at this; exact absurd this (List.lt_irrefl _)
 ·exact hl
 ·have := List.pairwise_iff_getElem.1 h j i hj hi hl; rw [e] at this; exact absurd this (List.lt_irrefl _)
theorem nv {l : List Row} {k : ByteArray} {r : Row} (hr : r ∈ l.take (iJ (.t l) k)) : kl r < k.toList := by
 obtain ⟨i, hi, rfl⟩ := List.mem_iff_getElem.1 hr; rw [List.length_take] at hi; have hb : Kp (.t l) k i = false := bP (show i < stop (Kp (.t l) k) l.length from by unfold iJ at hi; simp only [OQ] at hi; omega)
 unfold Kp at hb; have e : row (.t l) i = l[i]'(by omega) := hZ (l := .t l) (show i < l.length by omega)
 rw [e, qu] at hb; rw [List.getElem_take]; simpa [kl] using hb
theorem RV {l : List Row} {k : ByteArray} (h : iJ (.t l) k < l.length) : ¬ kl (l[iJ (.t l) k]'h) < k.toList := by
 have hb : Kp (.t l) k (iJ (.t l) k) = true := m8 (show stop (Kp (.t l) k) l.length < l.length from h); unfold Kp at hb; have e : row (.t l) (iJ (.t l) k) = l[iJ (.t l) k]'h := hZ (l := .t l) h; rw [e, qu] at hb; simpa [kl] using hb
theorem xr {l : List Row} {k : ByteArray} (h : gF (.t l) k = true) : ∃ hl : iJ (.t l) k < l.length, kl (l[iJ (.t l) k]'hl) = k.toList := by
 have hl : iJ (.t l) k < l.length := Bd h; rw [vl (l := .t l) hl] at h; have e : row (.t l) (iJ (.t l) k) = l[iJ (.t l) k]'hl := hZ (l := .t l) hl; rw [e] at h; exact ⟨hl, by simpa [kl] using h⟩
theorem VW {l : List Row} {k : ByteArray} (h : ¬ gF (.t l) k = true) (hl : iJ (.t l) k < l.length) : k.toList < kl (l[iJ (.t l) k]'hl) := by
 rw [vl (l := .t l) hl] at h; have e : row (.t l) (iJ (.t l) k) = l[iJ (.t l) k]'hl := hZ (l := .t l) hl; rw [e] at h; rcases UO (kl (l[iJ (.t l) k]'hl)) k.toList with q | q | q
 ·exact absurd q (RV hl)
 ·exact absurd q (by simpa [kl] using h)
 ·exact q
def Kq (l : List Row) (k : ByteArray) : Nat := if gF (.t l) k = true then iJ (.t l) k + 1 else iJ (.t l) k
theorem jT {l : List Row} (h : Lj l) {k : ByteArray} {r : Row} (hr : r ∈ l.drop (Kq l k)) : k.toList < kl r := by
 obtain ⟨i, hi, rfl⟩ := List.mem_iff_getElem.1 hr; rw [List.length_drop] at hi; rw [List.getElem_drop]; unfold Kq at hi ⊢
 by_cases hq : gF (.t l) k = true
 ·obtain ⟨hl, e⟩ := xr hq; simp only [hq, if_true] at hi ⊢; rw [<- e]; exact List.pairwise_iff_getElem.1 h _ _ hl (by omega) (by omega)
 ·rw [Bool.not_eq_true] at hq; simp only [hq, Bool.false_eq_true, if_false] at hi ⊢; have cW := VW (l := l) (k := k) (by rw [hq]; simp) (by omega)
  rcases Nat.eq_zero_or_pos i with rfl | hp
  ·exact cW
  ·exact List.lt_trans cW (List.pairwise_iff_getElem.1 h _ _ (by omega) (by omega) (by omega))
theorem rT {l : List Row} {k : ByteArray} (r : Row) : r ∈ l -> r ∈ l.take (iJ (.t l) k) \/ kl r = k.toList \/ r ∈ l.drop (Kq l k) := fun hr => by
 obtain ⟨i, hi, rfl⟩ := List.mem_iff_getElem.1 hr
 by_cases h1 : i < iJ (.t l) k
 ·exact .inl (List.mem_take_iff_getElem.2 ⟨i, by omega, rfl⟩)
 ·by_cases h2 : i < Kq l k
  ·refine .inr (.inl ?_); unfold Kq at h2; split at h2
   ·rename_i hq; obtain ⟨hl, e⟩ := xr hq; have : i = iJ (.t l) k := by omega
    subst this; exact e
   ·omega
  ·exact .inr (.inr (List.mem_drop_iff_getElem.2 ⟨i - Kq l k, by omega, by congr 1; omega⟩))
theorem lh {a b : List UInt8} (h : a < b) : a ≠ b := fun e => by rw [e] at h; exact List.lt_irrefl _ h
theorem mI {l : List Row} (h : Lj l) {k : ByteArray} {x r : Row} : r ∈ fN (.t l) k x ↔ r = x \/ r ∈ l /\ kl r ≠ k.toList := by
 unfold fN; rw [List.mem_append, List.mem_cons]; constructor
 ·rintro (q | q | q)
  ·exact .inr ⟨List.mem_of_mem_take q, lh (nv q)⟩
  ·exact .inl q
  ·exact .inr ⟨List.mem_of_mem_drop q, (lh (jT h q)).symm⟩
 ·rintro (q | ⟨q, hne⟩)
  ·exact .inr (.inl q)
  ·rcases rT (k := k) r q with q | q | q
   ·exact .inl q
   ·exact absurd q hne
   ·exact .inr (.inr q)
theorem xF {l : List Row} {k : ByteArray} : b8 (.t l) k = l.take (iJ (.t l) k) ++ l.drop (Kq l k) := by
 unfold b8 Kq; split
 ·rfl
 ·exact (List.take_append_drop _ _).symm
theorem fO {l : List Row} (h : Lj l) {k : ByteArray} {r : Row} : r ∈ b8 (.t l) k ↔ r ∈ l /\ kl r ≠ k.toList := by
 rw [xF, List.mem_append]; constructor
 ·rintro (q | q)
  ·exact ⟨List.mem_of_mem_take q, lh (nv q)⟩
  ·exact ⟨List.mem_of_mem_drop q, (lh (jT h q)).symm⟩
 ·rintro ⟨q, hne⟩; rcases rT (k := k) r q with q | q | q
  ·exact .inl q
  ·exact absurd q hne
  ·exact .inr q
theorem N4 {l : List Row} (h : Lj l) {k : ByteArray} {x : Row} (hx : kl x = k.toList) : Lj (fN (.t l) k x) := by
 unfold fN; refine List.pairwise_append.2 ⟨h.sublist (List.take_sublist ..), List.pairwise_cons.2 ⟨fun r hr => ?_, h.sublist (List.drop_sublist ..)⟩, fun a ha b hb => ?_⟩
 ·rw [hx]; exact jT h hr
 ·rcases List.mem_cons.1 hb with rfl | hb
  ·rw [hx]; exact nv ha
  ·exact List.lt_trans (nv ha) (jT h hb)
theorem C2 {l : List Row} (h : Lj l) {k : ByteArray} : Lj (b8 (.t l) k) := by
 rw [xF]; exact List.pairwise_append.2 ⟨h.sublist (List.take_sublist ..), h.sublist (List.drop_sublist ..), fun a ha b hb => List.lt_trans (nv ha) (jT h hb)⟩
def agp : aJ := .cons aC (.cons .bool (.cons (.int .i64) (.cons .str .nil)))
def itC : DK := .eh 261 (.fp agp)
end Go.Proofs.YtdlppkhmmclipaaGreat.sxObj
namespace Go.Proofs.YtdlppkhmmclipaaGreat.sxObj
open Go.Sx
set_option linter.unusedVariables false
set_option maxRecDepth 100000
abbrev ov0 : E := .il 0
abbrev ov1 : E := .o2 (.mf .s) (.v 7561) (eC 0 (.v 7560) (.v 2155))
abbrev ov2 : E := .o2 .lt (.v 2155) (.o1 .ab (.v 7560))
abbrev ov3 : E := .uf 202 (eP (.v 7560) (eP (.v 7561) ov0))
def tlL : List (aa × List Ob) :=
 [(fT (.o2 .le ov0 ov1) (fT ov2 []), oT (eC 1 (.v 7561) ov1) (eC 0 ov3 (.v 2155)) []),
  (fF (.o2 .le ov0 ov1) (fT ov2 []), oO (.bl false) []),
  (fF ov2 [], oO (.o2 .le (.v 2155) (.o1 .ab ov3)) (oT (.o2 .de ov3 (.v 2155)) ov3 []))]
end Go.Proofs.YtdlppkhmmclipaaGreat.sxObj
namespace Go.Proofs.YtdlppkhmmclipaaGreat.sxObj
open Go.Sx Go.RowKit Go.Proofs.YtdlppkhmmclipaaGreat
set_option linter.unusedVariables false
set_option linter.unusedSimpArgs false
set_option maxRecDepth 100000
theorem Mw {l : Dv} {f : Row -> Row} {n : Nat} (h : n < l.T.length) : row (.t (l.T.map f)) n = f (row l n) := by rw [nB h]; rfl
section
variable {l m : Dv} {now ttl : Int}
end
section
variable {o : Env}
end
structure Good (S : List Row) : Prop where
 i : Lj S
 g : ∀ r ∈ S, bad r = false
 e : ∀ r ∈ S, eight r = r
theorem Good.afJ {S : List Row} (h : Good S) : oD S := ⟨h.i, h.g⟩
theorem Mq : Good [] := ⟨List.Pairwise.nil, (fun _ q => by cases q), (fun _ q => by cases q)⟩
theorem IE {S : List Row} (h : Good S) {k : ByteArray} {x : Row} (hx : kl x = k.toList) (hb : bad x = false) (he : eight x = x) : Good (fN (.t S) k x) :=
 ⟨N4 h.i hx, fun r hr => by
  rcases (mI h.i).1 hr with rfl | hr
  ·exact hb
  ·exact h.g r hr.1, fun r hr => by
  rcases (mI h.i).1 hr with rfl | hr
  ·exact he
  ·exact h.e r hr.1⟩
theorem rq {S : List Row} (h : Good S) {k : ByteArray} : Good (b8 (.t S) k) :=
 ⟨C2 h.i, fun r hr => h.g r ((fO h.i).1 hr).1, fun r hr => h.e r ((fO h.i).1 hr).1⟩
theorem HX {S : List Row} (h : Lj S) {n : Nat} (hn : n < S.length) {r : Row} (hr : r ∈ S) (e : kl r = kl (row (.t S) n)) : r = row (.t S) n := by
 obtain ⟨i, hi, rfl⟩ := List.mem_iff_getElem.1 hr; rw [hZ (l := .t S) hn] at e ⊢; have := UK h hi hn e; subst this; rfl
end Go.Proofs.YtdlppkhmmclipaaGreat.sxObj
namespace Go.Sx
set_option linter.unusedVariables false
section
variable {α : Type} {lt : α -> α -> Bool}
def par (k : Nat) : Nat := (k - 1) / 2
def swp (H : Nat -> α) (i j : Nat) : Nat -> α := fun k => if k = i then H j else if k = j then H i else H k
structure Gd (lt : α -> α -> Bool) : Prop where
 asym : ∀ a b, lt a b = true -> lt b a = false
 tr : ∀ a b c, lt b a = false -> lt c b = false -> lt c a = false
def iF (lt : α -> α -> Bool) (H : Nat -> α) (n : Nat) : Prop := ∀ k, 0 < k -> k < n -> lt (H k) (H (par k)) = false
theorem xN {H : Nat -> α} {i j : Nat} : swp H i j i = H j := if_pos rfl
theorem tX {H : Nat -> α} {i j : Nat} : swp H i j j = H i := by
 unfold swp; split
 ·rename_i e; rw [e]
 ·exact if_pos rfl
theorem oZ {H : Nat -> α} {i j k : Nat} (h1 : k ≠ i) (h2 : k ≠ j) : swp H i j k = H k := by
 unfold swp; rw [if_neg h1, if_neg h2]
theorem irr (w : Gd lt) (a : α) : lt a a = false := by
 cases h : lt a a with
 | false => rfl
 | true => rw [w.asym a a h] at h; cases h
structure rS (lt : α -> α -> Bool) (H : Nat -> α) (n j : Nat) : Prop where
 a : ∀ k, 0 < k -> k < n -> k ≠ j -> lt (H k) (H (par k)) = false
 b : 0 < j -> ∀ c, 0 < c -> c < n -> par c = j -> lt (H c) (H (par j)) = false
theorem QU (w : Gd lt) {H : Nat -> α} {n j : Nat} (h : rS lt H n j) (h0 : 0 < j) (hj : j < n) (hl : lt (H j) (H (par j)) = true) : rS lt (swp H (par j) j) n (par j) := by
 have hp : par j < j := by unfold par; omega
 constructor
 ·intro k k0 kn ki
  by_cases hk : k = j
  ·subst hk; rw [tX, xN]; exact w.asym _ _ hl
  ·rw [oZ ki hk]
   by_cases h1 : par k = par j
   ·rw [h1, xN]; have hk := h.a k k0 kn hk; rw [h1] at hk; exact w.tr _ _ _ (w.asym _ _ hl) hk
   ·by_cases h2 : par k = j
    ·rw [h2, tX]; exact h.b h0 k k0 kn h2
    ·rw [oZ h1 h2]; exact h.a k k0 kn hk
 ·intro hi c c0 cn hc; have hpp : par (par j) < par j := by unfold par at hi ⊢; omega
  have hg : swp H (par j) j (par (par j)) = H (par (par j)) := oZ (by omega) (by omega)
  rw [hg]
  by_cases hk : c = j
  ·rw [hk, tX]; exact h.a (par j) hi (by omega) (by omega)
  ·have hci : c ≠ par j := fun e => by rw [<- e] at hc; unfold par at hc; omega
   rw [oZ hci hk]; exact w.tr _ _ _ (h.a (par j) hi (by omega) (by omega)) (by have := h.a c c0 cn hk; rwa [hc] at this)
theorem Bz {H : Nat -> α} {n j : Nat} (h : rS lt H n j) (hs : j = 0 \/ lt (H j) (H (par j)) = false) : iF lt H n := fun k k0 kn => by
 by_cases hk : k = j
 ·subst hk; rcases hs with q | q
  ·omega
  ·exact q
 ·exact h.a k k0 kn hk
theorem Uu {H : Nat -> α} {n : Nat} (h : iF lt H n) : rS lt H (n + 1) n := by
 refine ⟨fun k k0 kn hk => h k k0 (by omega), fun h0 c c0 cn hc => ?_⟩
 have : c < n + 1 := cn; unfold par at hc; omega
structure cz (lt : α -> α -> Bool) (H : Nat -> α) (n i : Nat) : Prop where
 a : ∀ k, 0 < k -> k < n -> k ≠ i -> par k ≠ i -> lt (H k) (H (par k)) = false
 b : 0 < i -> ∀ c, 0 < c -> c < n -> par c = i -> lt (H c) (H (par i)) = false
def Fit (lt : α -> α -> Bool) (H : Nat -> α) (i : Nat) : Prop := 0 < i -> lt (H i) (H (par i)) = false
theorem IJ (w : Gd lt) {H : Nat -> α} {n i j : Nat} (h : cz lt H n i) (hp : par j = i) (hj : j < n) (h0 : 0 < j) (hl : lt (H j) (H i) = true) (hm : ∀ c, 0 < c -> c < n -> par c = i -> lt (H c) (H j) = false) :
    cz lt (swp H i j) n j /\ Fit lt (swp H i j) j := by
 have hij : i < j := by rw [<- hp]; unfold par; omega
 refine ⟨⟨fun k k0 kn kj pk => ?_, fun _ c c0 cn hc => ?_⟩, fun _ => ?_⟩
 ·by_cases h1 : par k = i
  ·rw [h1, xN, oZ (by rw [<- h1]; unfold par; omega) kj]
   exact hm k k0 kn h1
  ·by_cases h2 : k = i
   ·subst h2; rw [xN, oZ (by unfold par; omega) pk]
    exact h.b k0 j h0 hj hp
   ·rw [oZ h2 kj, oZ h1 pk]; exact h.a k k0 kn h2 h1
 ·have hcj : j < c := by rw [<- hc]; unfold par; omega
  rw [hp, xN, oZ (by omega) (by omega)]
  have := h.a c c0 cn (by omega) (by omega)
  rwa [hc] at this
 ·rw [hp, xN, tX]; exact w.asym _ _ hl
theorem down_up {H : Nat -> α} {n i : Nat} (h : cz lt H n i) (hs : ∀ c, 0 < c -> c < n -> par c = i -> lt (H c) (H i) = false) : rS lt H n i := by
 refine ⟨fun k k0 kn hk => ?_, h.b⟩
 by_cases h1 : par k = i
 ·rw [h1]; exact hs k k0 kn h1
 ·exact h.a k k0 kn hk h1
theorem kids {c i : Nat} (h0 : 0 < c) : par c = i ↔ c = 2 * i + 1 \/ c = 2 * i + 2 := by unfold par; omega
theorem BH {H H' : Nat -> α} {n i : Nat} (w : Gd lt) (h : iF lt H n) (he : ∀ k, k ≠ i -> H' k = H k) (hi : i < n) : cz lt H' n i := by
 refine ⟨fun k k0 kn hk pk => ?_, fun h0 c c0 cn hc => ?_⟩
 ·rw [he k hk, he _ pk]; exact h k k0 kn
 ·have hci : c ≠ i := by rw [<- hc]; unfold par; omega
  have hpi : par i ≠ i := by unfold par; omega
  rw [he c hci, he _ hpi]; exact w.tr _ _ _ (h i h0 hi) (by have := h c c0 cn; rwa [hc] at this)
theorem dA {H : Nat -> α} {n i : Nat} (w : Gd lt) (h : iF lt H (n + 1)) (hi : i < n) : cz lt (swp H i n) n i := by
 have h2 : iF lt H n := fun k k0 kn => h k k0 (by omega)
 have := BH (H' := fun k => if k = i then H n else H k) w h2 (fun k hk => if_neg hk) hi
 have e : ∀ k, k < n -> swp H i n k = (if k = i then H n else H k) := fun k hk => by
  unfold swp; split
  ·rfl
  ·rw [if_neg (by omega)]
 refine ⟨fun k k0 kn hk pk => ?_, fun h0 c c0 cn hc => ?_⟩
 ·rw [e k kn, e _ (by unfold par; omega)]; exact this.a k k0 kn hk pk
 ·rw [e c cn, e _ (by unfold par; omega)]; exact this.b h0 c c0 cn hc
theorem root {H : Nat -> α} {n : Nat} (w : Gd lt) (h : iF lt H n) : ∀ k, k < n -> lt (H k) (H 0) = false := by
 intro k
 induction k using Nat.strongRecOn with
 | ind k ih =>
   intro hk; rcases Nat.eq_zero_or_pos k with q | q
   ·subst q; exact irr w _
   ·have hp : par k < k := by unfold par; omega
    exact w.tr _ _ _ (ih _ hp (by omega)) (h k q hk)
end
end Go.Sx
namespace Go.Proofs.YtdlppkhmmclipaaGreat.sxObj
open Go.Sx Go.RowKit Go.Proofs.YtdlppkhmmclipaaGreat
set_option linter.unusedVariables false
def tS : Nat := 28
def fUp : Nat := 94
def Ij : Nat := 93
def tHD : Nat := 106
def RL : Nat := 177
def lsE (a b : Nat -> E) : E := .uf 280 (pk [a 5, sW a, b 5, sW b])
def xC : cK where
 f := tS
 args := [QA 7700 7701, QA 7702 7703]
 params := [7700, 7701, 7702, 7703]
 aV := [(JY (cE (.v 7700) (.v 7701)), true), (JY (cE (.v 7702) (.v 7703)), true), (cE (.v 7700) (.v 7701) 6, false), (cE (.v 7702) (.v 7703) 6, false)]
 app := fun _ => true
 bz := [(.bl true, 0)]
 kind := fun _ => some 0
 out := fun _ => .bool (lsE (cE (.v 7700) (.v 7701)) (cE (.v 7702) (.v 7703)))
 X := (⟨[(iq, iV.bh), (tz, qV.bh)], []⟩ : jw).x
 fuel := 400; np := 80
def Oz : aJ := .cons aC (.cons (.int .i64) .nil)
def itH (e : E) (it : Option Nat := none) : aA := .k7 .str false (.cons (.ap RL) .nil) e it
def hdH (B len I A : E) : aQ := [(500177, .ar RL Oz A), (8, .row uI 1 (aH B) (bX jl B 0) []), (3, itH I), (1, .cells tHD [.map 3, .sl 8 1 (.il 0) len, .fn (.func tM) [] [], .fn (.func tS) [] []])]
def RX : List E := [.v 7710, .v 7711, .v 7712, .v 7713]
def upR (r : E) : E := pk (RX ++ [r])
def MW : aa := [(.uf 287 (pk [.v 7710, .v 7711, .v 7712, .v 7714]), true), cX (.il 0) (.v 7713), sX (.v 7713) (.v 7714), cX (.v 7714) (.il 1000000), cX (aH (.v 7710)) (.il 1000000), cX (aH (.v 7712)) (.il 1000000)]
def Zk : aj where
 f := fUp; key := 0; N := 23; r := 2200; base := 180000
 js := [4] ++ me 5 23
 hd := fun _ => ⟨[(0, .eh 103 (.ptr 1 (.c 0))), (1, iS (.uf 283 (upR (.v 2200))))], hdH (.uf 281 (upR (.v 2200))) (.v 7714) (.v 7711) (.uf 282 (upR (.v 2200))), 20,
  cX (.il 0) (.v 2200) :: cX (.v 2200) (.uf 284 (pk RX)) :: MW⟩
 aV := fun _ => MW
 app := fun _ => true
 nT := fun m => Nat.beq m 0
 dY := fun _ => .ret 0
 ml := fun m => Nat.beq m 0
 mf := fun _ => []
 hx := fun _ => ⟨[(0, .eh 103 (.ptr 1 (.c 0))), (1, .top)], hdH (.uf 285 (pk RX)) (.v 7714) (.v 7711) (.uf 286 (pk RX)), 20, []⟩
 ur := fun _ _ => .ret 0
 oN := fun _ => .exit 0
 bz := [(.bl true, 0)]
 fixed := [1, 3, 8]
 lt := .o2 .lt (.v 2200) (.uf 284 (pk RX))
 X := (⟨[(tS, xC.bh)], []⟩ : jw).x.Ba
 fuel := 800; np := 160
 params := [7710, 7711, 7712, 7713, 7714]
 yn := [(uI, jl)]
 pins := fun sl => match nth sl 1 with | some (.int _ e) => [(7713, e)] | _ => []
 OP := [(7710, 0, 0, [1]), (7712, 0, 500177, [])]
def Oy : List E := [.v 7720, .v 7721, .v 7722, .v 7723, .v 7724]
def dnR (r : E) : E := pk (Oy ++ [r])
def Od : aa := [(.uf 287 (pk [.v 7720, .v 7721, .v 7722, .v 7725]), true), cX (.il 0) (.v 7723), cX (.v 7723) (.il 1000000), cX (.il 0) (.v 7724), cX (.v 7724) (.v 7725), cX (.v 7725) (.il 1000000), cX (aH (.v 7720)) (.il 1000000), cX (aH (.v 7722)) (.il 1000000)]
def Zo : aj where
 f := Ij; key := 2; N := 48; r := 2201; base := 181000
 js := [8, 9, 10] ++ me 12 45
 hd := fun _ => ⟨[(0, .eh 103 (.ptr 1 (.c 0))), (1, iS (.v 7723)), (2, iS (.v 7724)), (6, .bool (.bl false)), (7, iS (.uf 293 (dnR (.v 2201))))], hdH (.uf 291 (dnR (.v 2201))) (.v 7725) (.v 7721) (.uf 292 (dnR (.v 2201))), 20,
  cX (.il 0) (.v 2201) :: cX (.v 2201) (.uf 294 (pk Oy)) :: Od⟩
 aV := fun _ => Od
 app := fun _ => true
 nT := fun m => Nat.beq m 0
 dY := fun _ => .ret 0
 ml := fun m => Nat.beq m 0
 mf := fun _ => []
 hx := fun _ => ⟨[(0, .eh 103 (.ptr 1 (.c 0))), (1, iS (.v 7723)), (2, .top), (6, .bool (.bl false)), (7, iS (.uf 297 (pk Oy)))], hdH (.uf 295 (pk Oy)) (.v 7725) (.v 7721) (.uf 296 (pk Oy)), 20, []⟩
 ur := fun _ _ => .ret 0
 oN := fun _ => .exit 0
 bz := [(.bl true, 0)]
 fixed := [1, 3, 8]
 lt := .o2 .lt (.v 2201) (.uf 294 (pk Oy))
 X := (⟨[(tS, xC.bh)], []⟩ : jw).x.Ba
 fuel := 800; np := 160
 params := [7720, 7721, 7722, 7723, 7724, 7725]
 yn := [(uI, jl)]
 OP := [(7720, 0, 0, [1]), (7722, 0, 500177, [])]
set_option linter.unusedSimpArgs false
def Un (b1 k1 b2 k2 : ByteArray) : Bool := if b1.toList = b2.toList then cA k1 k2 else cA b1 b2
def kg (x y : Row) : Bool := Un (cc x 5).S (kO x) (cc y 5).S (kO y)
def mh (B : List Row) (i : Nat) : Dv := cc (row (.t B) i) 0
def dM (I k : Dv) : Int := (cc (row I (aP .s k I.T).toNat) 1).I
def yo (A : List Row) (n : Nat) : Row := row (mh A n) 0
def pg (I : Dv) (B A : List Row) (i : Nat) : Row := yo A (dM I (mh B i)).toNat
def zg (B : List Row) (i j : Nat) : List Row := (B.set i [mh B j]).set j [mh B i]
def Dn (A : List Row) (m : Nat) (i : Nat) : List Row := A.set m [mh A m, .i i]
def Ox (I : Dv) (B A : List Row) (i j : Nat) : List Row := Dn (Dn A (dM I (mh B i)).toNat i) (dM I (mh B j)).toNat j
structure HS where
 B : List Row
 A : List Row
 j : Nat
def swS (I : Dv) (s : HS) (i j : Nat) (k : Nat) : HS := ⟨zg s.B i j, Ox I (zg s.B i j) s.A i j, k⟩
def VN (I : Dv) (s : HS) (i j : Nat) : Bool := kg (pg I s.B s.A i) (pg I s.B s.A j)
def dZ (B I A : Dv) (j : Nat) : Nat -> HS
 | 0 => ⟨B.T, A.T, j⟩
 | t + 1 => swS I (dZ B I A j t) (par (dZ B I A j t).j) (dZ B I A j t).j (par (dZ B I A j t).j)
def oS (I : Dv) (s : HS) : Bool := decide (0 < s.j) && VN I s s.j (par s.j)
def CP (B I A : Dv) (j : Nat) : Nat := stop (fun t => !oS I (dZ B I A j t)) (j + 1)
def gT (I : Dv) (s : HS) (m : Nat) : Nat := if decide (2 * s.j + 2 < m) && VN I s (2 * s.j + 2) (2 * s.j + 1) then 2 * s.j + 2 else 2 * s.j + 1
def dD (B I A : Dv) (m j : Nat) : Nat -> HS
 | 0 => ⟨B.T, A.T, j⟩
 | t + 1 => swS I (dD B I A m j t) (dD B I A m j t).j (gT I (dD B I A m j t) m) (gT I (dD B I A m j t) m)
def nd (I : Dv) (s : HS) (m : Nat) : Bool := decide (2 * s.j + 1 < m) && VN I s (gT I s m) s.j
def wU (B I A : Dv) (m j : Nat) : Nat := stop (fun t => !nd I (dD B I A m j t) m) (m + 1)
structure Ak (B : List Row) (I : Dv) (A : List Row) (m : Nat) : Prop where
 n : m <= B.length
 k : ∀ x, x < m -> 0 <= aP .s (mh B x) I.T
 i : ∀ x, x < m -> 0 <= dM I (mh B x)
 l : ∀ x, x < m -> (dM I (mh B x)).toNat < A.length
 b : ∀ x, x < m -> bad (pg I B A x) = false
 o : ∀ x, x < m -> iD (pg I B A x)
noncomputable def ab6 (c : Nat) (d : Dv) : Dv :=
 match c with
 | 280 => .b (Un (ar d 0).S (ar d 1).S (ar d 2).S (ar d 3).S)
 | 281 => .t (dZ (ar d 0) (ar d 1) (ar d 2) (ar d 3).I.toNat (ar d 4).I.toNat).B
 | 282 => .t (dZ (ar d 0) (ar d 1) (ar d 2) (ar d 3).I.toNat (ar d 4).I.toNat).A
 | 283 => .i (dZ (ar d 0) (ar d 1) (ar d 2) (ar d 3).I.toNat (ar d 4).I.toNat).j
 | 284 => .i (CP (ar d 0) (ar d 1) (ar d 2) (ar d 3).I.toNat : Nat)
 | 285 => .t (dZ (ar d 0) (ar d 1) (ar d 2) (ar d 3).I.toNat (CP (ar d 0) (ar d 1) (ar d 2) (ar d 3).I.toNat)).B
 | 286 => .t (dZ (ar d 0) (ar d 1) (ar d 2) (ar d 3).I.toNat (CP (ar d 0) (ar d 1) (ar d 2) (ar d 3).I.toNat)).A
 | 287 => .b (dec (Ak (ar d 0).T (ar d 1) (ar d 2).T (ar d 3).I.toNat))
 | 291 => .t (dD (ar d 0) (ar d 1) (ar d 2) (ar d 4).I.toNat (ar d 3).I.toNat (ar d 5).I.toNat).B
 | 292 => .t (dD (ar d 0) (ar d 1) (ar d 2) (ar d 4).I.toNat (ar d 3).I.toNat (ar d 5).I.toNat).A
 | 293 => .i (dD (ar d 0) (ar d 1) (ar d 2) (ar d 4).I.toNat (ar d 3).I.toNat (ar d 5).I.toNat).j
 | 294 => .i (wU (ar d 0) (ar d 1) (ar d 2) (ar d 4).I.toNat (ar d 3).I.toNat : Nat)
 | 295 => .t (dD (ar d 0) (ar d 1) (ar d 2) (ar d 4).I.toNat (ar d 3).I.toNat (wU (ar d 0) (ar d 1) (ar d 2) (ar d 4).I.toNat (ar d 3).I.toNat)).B
 | 296 => .t (dD (ar d 0) (ar d 1) (ar d 2) (ar d 4).I.toNat (ar d 3).I.toNat (wU (ar d 0) (ar d 1) (ar d 2) (ar d 4).I.toNat (ar d 3).I.toNat)).A
 | 297 => .i (dD (ar d 0) (ar d 1) (ar d 2) (ar d 4).I.toNat (ar d 3).I.toNat (wU (ar d 0) (ar d 1) (ar d 2) (ar d 4).I.toNat (ar d 3).I.toNat)).j
 | _ => .i 0
def OH (o : Env) : Prop := ∀ c d, 280 <= c -> c < 300 -> o.uf c d = ab6 c d
theorem OH.aE {o o' : Env} (h : OH o) (e : o'.uf = o.uf) : OH o' := fun c d h1 h2 => by rw [e]; exact h c d h1 h2
theorem OH.all {o : Env} (h : OH o) :
    ((∀ d, o.uf 280 d = .b (Un (ar d 0).S (ar d 1).S (ar d 2).S (ar d 3).S)) /\
    (∀ d, o.uf 281 d = .t (dZ (ar d 0) (ar d 1) (ar d 2) (ar d 3).I.toNat (ar d 4).I.toNat).B) /\
    (∀ d, o.uf 282 d = .t (dZ (ar d 0) (ar d 1) (ar d 2) (ar d 3).I.toNat (ar d 4).I.toNat).A) /\
    (∀ d, o.uf 283 d = .i (dZ (ar d 0) (ar d 1) (ar d 2) (ar d 3).I.toNat (ar d 4).I.toNat).j) /\
    (∀ d, o.uf 284 d = .i (CP (ar d 0) (ar d 1) (ar d 2) (ar d 3).I.toNat : Nat)) /\
    (∀ d, o.uf 285 d = .t (dZ (ar d 0) (ar d 1) (ar d 2) (ar d 3).I.toNat (CP (ar d 0) (ar d 1) (ar d 2) (ar d 3).I.toNat)).B) /\
    (∀ d, o.uf 286 d = .t (dZ (ar d 0) (ar d 1) (ar d 2) (ar d 3).I.toNat (CP (ar d 0) (ar d 1) (ar d 2) (ar d 3).I.toNat)).A) /\
    (∀ d, o.uf 287 d = .b (dec (Ak (ar d 0).T (ar d 1) (ar d 2).T (ar d 3).I.toNat)))) /\
    ((∀ d, o.uf 291 d = .t (dD (ar d 0) (ar d 1) (ar d 2) (ar d 4).I.toNat (ar d 3).I.toNat (ar d 5).I.toNat).B) /\
    (∀ d, o.uf 292 d = .t (dD (ar d 0) (ar d 1) (ar d 2) (ar d 4).I.toNat (ar d 3).I.toNat (ar d 5).I.toNat).A) /\
    (∀ d, o.uf 293 d = .i (dD (ar d 0) (ar d 1) (ar d 2) (ar d 4).I.toNat (ar d 3).I.toNat (ar d 5).I.toNat).j) /\
    (∀ d, o.uf 294 d = .i (wU (ar d 0) (ar d 1) (ar d 2) (ar d 4).I.toNat (ar d 3).I.toNat : Nat)) /\
    (∀ d, o.uf 295 d = .t (dD (ar d 0) (ar d 1) (ar d 2) (ar d 4).I.toNat (ar d 3).I.toNat (wU (ar d 0) (ar d 1) (ar d 2) (ar d 4).I.toNat (ar d 3).I.toNat)).B) /\
    (∀ d, o.uf 296 d = .t (dD (ar d 0) (ar d 1) (ar d 2) (ar d 4).I.toNat (ar d 3).I.toNat (wU (ar d 0) (ar d 1) (ar d 2) (ar d 4).I.toNat (ar d 3).I.toNat)).A) /\
    (∀ d, o.uf 297 d = .i (dD (ar d 0) (ar d 1) (ar d 2) (ar d 4).I.toNat (ar d 3).I.toNat (wU (ar d 0) (ar d 1) (ar d 2) (ar d 4).I.toNat (ar d 3).I.toNat)).j)) :=
 ⟨⟨fun d => h 280 d (by decide) (by decide), fun d => h 281 d (by decide) (by decide), fun d => h 282 d (by decide) (by decide), fun d => h 283 d (by decide) (by decide), fun d => h 284 d (by decide) (by decide), fun d => h 285 d (by decide) (by decide), fun d => h 286 d (by decide) (by decide), fun d => h 287 d (by decide) (by decide)⟩,
  fun d => h 291 d (by decide) (by decide), fun d => h 292 d (by decide) (by decide), fun d => h 293 d (by decide) (by decide), fun d => h 294 d (by decide) (by decide), fun d => h 295 d (by decide) (by decide), fun d => h 296 d (by decide) (by decide), fun d => h 297 d (by decide) (by decide)⟩
section
variable {B A : List Row} {I k : Dv} {i j n : Nat} {x y : Row}
theorem Zt : cc (row (.t B) i) 0 = mh B i := id rfl
theorem adM : row (mh A n) 0 = yo A n := id rfl
theorem aat : (cc (row I (aP .s k I.T).toNat) 1).I = dM I k := id rfl
theorem acQ : yo A (dM I (mh B i)).toNat = pg I B A i := id rfl
theorem acn : (B.set i [mh B j]).set j [mh B i] = zg B i j := id rfl
theorem TW : A.set n [mh A n, .i i] = Dn A n i := id rfl
theorem abY : Un (cc x 5).S (iP (cc x 0).S (cc x 1).S) (cc y 5).S (iP (cc y 0).S (cc y 1).S) = kg x y := id rfl
theorem aag : Qf (cc x 0) (cc x 1) (cc x 4) ↔ iD x := Iff.rfl
theorem T3 : (cc x 6).B = bad x := id rfl
end
theorem pv {l : List Row} {i k : Nat} {x : Row} (hi : i < l.length) : row (.t (l.set i x)) k = if k = i then x else row (.t l) k := by
 unfold row; show ((l.set i x)[k]?).getD [] = _; rw [List.getElem?_set]
 by_cases e : i = k
 ·subst e; simp [hi]
 ·rw [if_neg e, if_neg fun q => e q.symm]; rfl
theorem Lx {l : List Row} {i k : Nat} {x : Dv} (hi : i < l.length) : mh (l.set i [x]) k = if k = i then x else mh l k := by
 unfold mh; rw [pv hi]; split <;> rfl
theorem fm {B : List Row} {i j : Nat} : (zg B i j).length = B.length := by unfold zg; rw [List.length_set, List.length_set]
theorem uy {B : List Row} {i j : Nat} (hi : i < B.length) (hj : j < B.length) (k : Nat) : mh (zg B i j) k = swp (mh B) i j k := by
 unfold zg; rw [Lx (by rw [List.length_set]; exact hj), Lx hi]
 unfold swp
 by_cases h1 : k = j
 ·subst h1; rw [if_pos rfl]
  by_cases h2 : k = i
  ·subst h2; rw [if_pos rfl]
  ·rw [if_neg h2, if_pos rfl]
 ·rw [if_neg h1]
  by_cases h2 : k = i
  ·rw [if_pos h2, if_pos h2]
  ·rw [if_neg h2, if_neg h2, if_neg h1]
theorem wh {A : List Row} {m i : Nat} : (Dn A m i).length = A.length := List.length_set ..
theorem G2 {A : List Row} {m i : Nat} (k : Nat) : yo (Dn A m i) k = yo A k := by
 unfold yo Dn
 by_cases hm : m < A.length
 ·have : mh (A.set m [mh A m, .i i]) k = mh A k := by
    show cc (row _ k) 0 = _; rw [pv hm]; split
    ·rename_i e; rw [e]; rfl
    ·rfl
  rw [this]
 ·rw [List.set_eq_of_length_le (by omega)]
theorem jY {I : Dv} {B A : List Row} {i j : Nat} : (Ox I B A i j).length = A.length := by unfold Ox; rw [wh, wh]
theorem Xu {I : Dv} {B A : List Row} {i j : Nat} (k : Nat) : yo (Ox I B A i j) k = yo A k := by
 unfold Ox; rw [G2, G2]
theorem Le {I : Dv} {B A : List Row} {i j : Nat} (hi : i < B.length) (hj : j < B.length) : pg I (zg B i j) (Ox I (zg B i j) A i j) = swp (pg I B A) i j := by
 funext k
 unfold pg; rw [Xu, uy hi hj]; unfold swp; split
 ·rfl
 split <;> rfl
theorem w8 {α : Type} {H : Nat -> α} {P : α -> Prop} {i j n : Nat} (hi : i < n) (hj : j < n) (h : ∀ k, k < n -> P (H k)) : ∀ k, k < n -> P (swp H i j k) := fun k hk => by
 unfold swp; split
 ·exact h j hj
 split
 ·exact h i hi
 ·exact h k hk
theorem ir {B : List Row} {I : Dv} {A : List Row} {n i j : Nat} (h : Ak B I A n) (hi : i < n) (hj : j < n) : Ak (zg B i j) I (Ox I (zg B i j) A i j) n := by
 have hi' : i < B.length := Nat.lt_of_lt_of_le hi h.n; have hj' : j < B.length := Nat.lt_of_lt_of_le hj h.n; refine ⟨by rw [fm]; exact h.n, fun k hk => ?_, fun k hk => ?_, fun k hk => ?_, fun k hk => ?_, fun k hk => ?_⟩
 ·rw [uy hi' hj']; exact w8 (P := fun x => 0 <= aP .s x I.T) hi hj h.k k hk
 ·rw [uy hi' hj']; exact w8 (P := fun x => 0 <= dM I x) hi hj h.i k hk
 ·rw [uy hi' hj', jY]; exact w8 (P := fun x => (dM I x).toNat < A.length) hi hj h.l k hk
 ·rw [Le hi' hj']; exact w8 (P := fun x => bad x = false) hi hj h.b k hk
 ·rw [Le hi' hj']; exact w8 (P := fun x => iD x) hi hj h.o k hk
section
variable {B I A : Dv} {n j : Nat}
theorem LY {j : Nat} (h : 0 < j) : par j < j := by unfold par; omega
theorem kx {j : Nat} : par j <= j := by unfold par; omega
theorem YU (t : Nat) : (dZ B I A j t).j <= j := by
 induction t with
 | zero => exact Nat.le_refl _
 | succ t ih => exact Nat.le_trans kx ih
theorem adF (h : Ak B.T I A.T n) (hj : j < n) (t : Nat) : Ak (dZ B I A j t).B I (dZ B I A j t).A n := by
 induction t with
 | zero => exact h
 | succ t ih =>
   have := YU (B := B) (I := I) (A := A) (j := j) t; have := kx (j := (dZ B I A j t).j); exact ir ih (by omega) (by omega)
theorem W8 (t : Nat) : (dZ B I A j t).B.length = B.T.length /\ (dZ B I A j t).A.length = A.T.length := by
 induction t with
 | zero => exact ⟨rfl, rfl⟩
 | succ t ih => exact ⟨fm.trans ih.1, jY.trans ih.2⟩
theorem up_down (t : Nat) (h : ∀ s, s < t -> 0 < (dZ B I A j s).j) : (dZ B I A j t).j + t <= j := by
 induction t with
 | zero => exact Nat.le_refl _
 | succ t ih =>
   have ih := ih fun s hs => h s (by omega)
   have h0 := h t (Nat.lt_succ_self t); have : (dZ B I A j (t + 1)).j = par (dZ B I A j t).j := rfl; have := LY h0; omega
end
section
variable {B I A : Dv} {n m j : Nat}
theorem Lr {s : HS} : s.j < gT I s m := by unfold gT; split <;> omega
theorem Hp {s : HS} (h : 2 * s.j + 1 < m) : gT I s m < m := by
 unfold gT; split
 ·rename_i q; rw [Bool.and_eq_true, decide_eq_true_eq] at q; exact q.1
 ·exact h
theorem ad3 {s : HS} (h : 2 * s.j + 2 < m) (hl : kg (pg I s.B s.A (2 * s.j + 2)) (pg I s.B s.A (2 * s.j + 1)) = true) : gT I s m = 2 * s.j + 2 := by
 unfold gT VN; rw [decide_eq_true h, hl]; rfl
theorem aeZ {s : HS} (hl : kg (pg I s.B s.A (2 * s.j + 2)) (pg I s.B s.A (2 * s.j + 1)) = false) : gT I s m = 2 * s.j + 1 := by
 unfold gT VN; rw [hl, Bool.and_false]; rfl
theorem abz {s : HS} (h : ¬ 2 * s.j + 2 < m) : gT I s m = 2 * s.j + 1 := by
 unfold gT; rw [decide_eq_false h]; rfl
theorem te {s : HS} {c : Nat} {b : Bool} (hk : gT I s m = c) (h : 2 * s.j + 1 < m) (hl : kg (pg I s.B s.A c) (pg I s.B s.A s.j) = b) : nd I s m = b := by
 unfold nd VN; rw [hk, decide_eq_true h, hl, Bool.true_and]
theorem abd {s : HS} (h : ¬ 2 * s.j + 1 < m) : nd I s m = false := by
 unfold nd; rw [decide_eq_false h, Bool.false_and]
theorem MU (t : Nat) : j + t <= (dD B I A m j t).j := by
 induction t with
 | zero => exact Nat.le_refl _
 | succ t ih =>
   have := Lr (I := I) (m := m) (s := dD B I A m j t); have e : (dD B I A m j (t + 1)).j = gT I (dD B I A m j t) m := rfl; omega
theorem FA (t : Nat) : (dD B I A m j t).B.length = B.T.length /\ (dD B I A m j t).A.length = A.T.length := by
 induction t with
 | zero => exact ⟨rfl, rfl⟩
 | succ t ih => exact ⟨fm.trans ih.1, jY.trans ih.2⟩
theorem Gg {t : Nat} (h : t < wU B I A m j) : nd I (dD B I A m j t) m = true := by
 have h3 := bP (show t < stop (fun t => !nd I (dD B I A m j t) m) (m + 1) from h); simpa using h3
theorem aeL {r : Nat} (h : r <= wU B I A m j) (hg : nd I (dD B I A m j r) m = true) : r < wU B I A m j := by
 have h1 := MU (B := B) (I := I) (A := A) (m := m) (j := j) r
 have h2 : 2 * (dD B I A m j r).j + 1 < m := by
  unfold nd at hg; rw [Bool.and_eq_true, decide_eq_true_eq] at hg; exact hg.1
 exact sC h (by omega) (by rw [hg]; rfl)
theorem Ig {P : Nat -> Bool} {n r : Nat} (h : r <= stop P n) (hr : P r = true \/ n <= r) : stop P n = r := by
 refine Nat.le_antisymm (Nat.le_of_not_lt fun hl => ?_) h; rcases hr with q | q
 ·rw [bP hl] at q; cases q
 ·have := @ln P n; omega
theorem VB {r : Nat} (h : r <= wU B I A m j) (hg : nd I (dD B I A m j r) m = false) : wU B I A m j = r :=
 Ig h (.inl (by rw [hg]; rfl))
theorem NW {s : HS} (h : nd I s m = true) : 2 * s.j + 1 < m := by
 unfold nd at h; rw [Bool.and_eq_true, decide_eq_true_eq] at h; exact h.1
theorem abJ (h : Ak B.T I A.T n) (hm : m <= n) (t : Nat) (ht : t <= wU B I A m j) : Ak (dD B I A m j t).B I (dD B I A m j t).A n := by
 induction t with
 | zero => exact h
 | succ t ih =>
   have hg := NW (Gg (Nat.lt_of_succ_le ht)); have := Hp (I := I) hg; exact ir (ih (by omega)) (by omega) (by omega)
theorem afY (t : Nat) (ht : t <= wU B I A m j) : (dD B I A m j t).j = j \/ (dD B I A m j t).j < m := by
 cases t with
 | zero => exact .inl rfl
 | succ t => exact .inr (Hp (I := I) (NW (Gg (Nat.lt_of_succ_le ht))))
end
theorem mW {x y : Row} : kg x y = true ↔ (cc x 5).S.toList < (cc y 5).S.toList \/ ((cc x 5).S.toList = (cc y 5).S.toList /\ (kO x).toList < (kO y).toList) := by
 unfold kg Un; split
 ·rename_i h; rw [qu, decide_eq_true_eq]; exact ⟨fun q => .inr ⟨h, q⟩, fun q => q.elim (fun q => absurd h (lh q)) (·.2)⟩
 ·rename_i h; rw [qu, decide_eq_true_eq]; exact ⟨.inl, fun q => q.elim id fun q => absurd q.1 h⟩
theorem jV : Gd kg := by
 constructor
 ·intro a b h; rw [<- Bool.not_eq_true, mW]; rw [mW] at h; rintro (q | ⟨q1, q2⟩)
  ·rcases h with h | ⟨h1, h2⟩
   ·exact List.lt_asymm h q
   ·rw [h1] at q; exact List.lt_irrefl _ q
  ·rcases h with h | ⟨h1, h2⟩
   ·rw [q1] at h; exact List.lt_irrefl _ h
   ·exact List.lt_asymm h2 q2
 ·intro a b c h1 h2; rw [<- Bool.not_eq_true, mW] at h1 h2 ⊢; intro q; rcases UO (cc b 5).S.toList (cc a 5).S.toList with p | p | p
  ·exact h1 (.inl p)
  ·rcases q with q | ⟨q, r⟩
   ·rw [<- p] at q; exact h2 (.inl q)
   ·rcases UO (kO b).toList (kO a).toList with s | s | s
    ·exact h1 (.inr ⟨p, s⟩)
    ·refine h2 (.inr ⟨by rw [p, q], ?_⟩)
     rw [s]; exact r
    ·exact h2 (.inr ⟨by rw [p, q], List.lt_trans r s⟩)
  ·rcases q with q | ⟨q, r⟩
   ·exact h2 (.inl (List.lt_trans q p))
   ·rw [<- q] at p; exact h2 (.inl p)
structure HM where
 B : List Row
 n : Nat
 I : List Row
 A : List Row
def HM.key (h : HM) : Nat -> Dv := mh h.B
def HM.slot (h : HM) (i : Nat) : Nat := (dM (.t h.I) (mh h.B i)).toNat
def HM.ob (h : HM) : Nat -> Row := pg (.t h.I) h.B h.A
def HM.mem (h : HM) (x : Row) : Prop := ∃ i, i < h.n /\ h.ob i = x
structure eF (h : HM) : Prop where
 dJ : Ak h.B (.t h.I) h.A h.n
 d : ∀ i j, i < h.n -> j < h.n -> (h.key i).S.toList = (h.key j).S.toList -> i = j
 u : oC h.I
 r : ∀ r ∈ h.I, ∃ i, i < h.n /\ (h.key i).S.toList = ky r
 x : ∀ i j, i < h.n -> j < h.n -> h.slot i = h.slot j -> i = j
 p : ∀ i, i < h.n -> cc (row (.t h.A) (h.slot i)) 1 = .i (i : Int)
 k : ∀ i, i < h.n -> (kO (h.ob i)).toList = (h.key i).S.toList
def bm (h : HM) (i j : Nat) : HM := ⟨zg h.B i j, h.n, h.I, Ox (.t h.I) (zg h.B i j) h.A i j⟩
theorem zU {h : HM} {i j : Nat} (hi : i < h.B.length) (hj : j < h.B.length) : (bm h i j).key = swp h.key i j := funext (uy hi hj)
theorem jo {h : HM} {i j : Nat} (hi : i < h.B.length) (hj : j < h.B.length) : (bm h i j).ob = swp h.ob i j := Le hi hj
theorem QJ {h : HM} {i j : Nat} (hi : i < h.B.length) (hj : j < h.B.length) : (bm h i j).slot = swp h.slot i j := by
 funext k
 show (dM (.t h.I) (mh (zg h.B i j) k)).toNat = _; rw [uy hi hj]; unfold swp; split
 ·rfl
 split <;> rfl
def B0 (i j k : Nat) : Nat := if k = i then j else if k = j then i else k
theorem iX {α : Type} {H : Nat -> α} {i j k : Nat} : swp H i j k = H (B0 i j k) := by
 unfold swp B0; split
 ·rfl
 split <;> rfl
theorem m9 {i j k n : Nat} (hi : i < n) (hj : j < n) (hk : k < n) : B0 i j k < n := by
 unfold B0; split
 ·exact hj
 split
 ·exact hi
 ·exact hk
theorem vu {i j k : Nat} : B0 i j (B0 i j k) = k := by
 unfold B0
 by_cases h1 : k = i
 ·subst h1; rw [if_pos rfl]
  by_cases h2 : j = k
  ·rw [if_pos h2, h2]
  ·rw [if_neg h2, if_pos rfl]
 ·rw [if_neg h1]
  by_cases h2 : k = j
  ·rw [if_pos h2, if_pos rfl, h2]
  ·rw [if_neg h2, if_neg h1, if_neg h2]
theorem Hz {i j a b : Nat} (h : B0 i j a = B0 i j b) : a = b := by
 rw [<- vu (i := i) (j := j) (k := a), h, vu]
theorem M1 {A : List Row} {m i k : Nat} (hm : m < A.length) : cc (row (.t (Dn A m i)) k) 1 = if k = m then .i (i : Int) else cc (row (.t A) k) 1 := by
 unfold Dn; rw [pv hm]; split <;> rfl
theorem Bx {h : HM} {i j : Nat} (hi : i < h.n) (hj : j < h.n) (hn : h.n <= h.B.length) (x : Row) : (bm h i j).mem x ↔ h.mem x := by
 have e := jo (h := h) (Nat.lt_of_lt_of_le hi hn) (Nat.lt_of_lt_of_le hj hn); constructor
 ·rintro ⟨k, hk, q⟩; rw [e, iX] at q; exact ⟨_, m9 hi hj hk, q⟩
 ·rintro ⟨k, hk, q⟩; refine ⟨B0 i j k, m9 hi hj hk, ?_⟩; rw [e, iX, vu]; exact q
theorem fu {h : HM} {i j : Nat} (c : eF h) (hi : i < h.n) (hj : j < h.n) : eF (bm h i j) := by
 have hn := c.dJ.n; have hi' := Nat.lt_of_lt_of_le hi hn; have hj' := Nat.lt_of_lt_of_le hj hn; have ek := zU hi' hj'; have es := QJ hi' hj'; have eo := jo hi' hj'; refine ⟨ir c.dJ hi hj, fun a b ha hb e => ?_, c.u, fun r hr => ?_, fun a b ha hb e => ?_, fun a ha => ?_, fun a ha => ?_⟩
 ·rw [ek, iX, iX] at e; exact Hz (c.d _ _ (m9 hi hj ha) (m9 hi hj hb) e)
 ·obtain ⟨a, ha, e⟩ := c.r r hr; refine ⟨B0 i j a, m9 hi hj ha, ?_⟩; rw [ek, iX, vu]; exact e
 ·rw [es, iX, iX] at e; exact Hz (c.x _ _ (m9 hi hj ha) (m9 hi hj hb) e)
 ·have si : (dM (.t h.I) (mh (zg h.B i j) i)).toNat = h.slot j := by
    have := congrFun es i; rw [xN] at this; exact this
  have sj : (dM (.t h.I) (mh (zg h.B i j) j)).toNat = h.slot i := by
   have := congrFun es j; rw [tX] at this; exact this
  have l1 : h.slot j < h.A.length := c.dJ.l j hj; have l2 : h.slot i < h.A.length := c.dJ.l i hi; show cc (row (.t (Ox (.t h.I) (zg h.B i j) h.A i j)) ((bm h i j).slot a)) 1 = .i (a : Int); unfold Ox; rw [si, sj, M1 (by rw [wh]; exact l2), M1 l1, es, iX]
  by_cases h1 : a = j
  ·subst h1; rw [if_pos]; have : B0 i a a = i := by unfold B0; split <;> simp_all
   rw [this]
  ·rw [if_neg (fun q => h1 (by
     have q := c.x _ _ (m9 hi hj ha) hi q; unfold B0 at q; split at q
     ·rename_i e; rw [e, q]
     ·rename_i e; exact absurd q e))]
   by_cases h2 : a = i
   ·subst h2; rw [if_pos]; have : B0 a j a = j := by unfold B0; rw [if_pos rfl]
    rw [this]
   ·have e : B0 i j a = a := by unfold B0; rw [if_neg h2, if_neg h1]
    rw [e, if_neg fun q => h1 (c.x _ _ ha hj q)]; exact c.p a ha
 ·rw [ek, eo, iX, iX]; exact c.k _ (m9 hi hj ha)
def n8 (h : HM) (s : HS) : HM := ⟨s.B, h.n, h.I, s.A⟩
def qk (h : HM) (j : Nat) (t : Nat) : HS := dZ (.t h.B) (.t h.I) (.t h.A) j t
def I7 (h : HM) (j : Nat) : Nat := CP (.t h.B) (.t h.I) (.t h.A) j
def p6 (h : HM) (j : Nat) : HM := n8 h (qk h j (I7 h j))
def pY (h : HM) (m j : Nat) (t : Nat) : HS := dD (.t h.B) (.t h.I) (.t h.A) m j t
def y8 (h : HM) (m j : Nat) : Nat := wU (.t h.B) (.t h.I) (.t h.A) m j
def cO (h : HM) (m j : Nat) : HM := n8 h (pY h m j (y8 h m j))
def BY (h : HM) (m j : Nat) : Nat := (pY h m j (y8 h m j)).j
def gx (h : HM) (m j : Nat) : HM := if j < BY h m j then cO h m j else p6 (cO h m j) j
theorem Mn {h : HM} {j t : Nat} (ht : t < I7 h j) : oS (.t h.I) (qk h j t) = true := by
 have h3 := bP (show t < stop (fun t => !oS (.t h.I) (dZ (.t h.B) (.t h.I) (.t h.A) j t)) (j + 1) from ht); have h4 : (!oS (.t h.I) (qk h j t)) = false := h3; simpa using h4
theorem Xi {h : HM} {j : Nat} (hj : ∀ t, t < I7 h j -> 0 < (qk h j t).j) : oS (.t h.I) (qk h j (I7 h j)) = false := by
 have hd := up_down (B := .t h.B) (I := .t h.I) (A := .t h.A) (j := j) (I7 h j) hj
 have h3 := m8 (show stop (fun t => !oS (.t h.I) (dZ (.t h.B) (.t h.I) (.t h.A) j t)) (j + 1) < j + 1 from by
  show I7 h j < j + 1; have : (dZ (.t h.B) (.t h.I) (.t h.A) j (I7 h j)).j + I7 h j <= j := hd
  omega)
 have h4 : (!oS (.t h.I) (qk h j (I7 h j))) = true := h3; simpa using h4
structure wq (h0 h : HM) (j : Nat) : Prop where
 c : eF h
 n : h.n = h0.n
 i : h.I = h0.I
 l : h.A.length = h0.A.length
 b : h.B.length = h0.B.length
 m : ∀ x, h.mem x ↔ h0.mem x
 j : j < h.n
theorem wq.sw {h0 h : HM} {j i k : Nat} (u : wq h0 h j) (hi : i < h.n) (hk : k < h.n) : eF (bm h i k) /\ ∀ x, (bm h i k).mem x ↔ h0.mem x :=
 ⟨fu u.c hi hk, fun x => (Bx hi hk u.c.dJ.n x).trans (u.m x)⟩
theorem Ip {h : HM} {j m : Nat} (c : eF h) (hj : j < m) (hm : m <= h.n) (hp : rS kg h.ob m j) : ∀ t, t <= I7 h j -> wq h (n8 h (qk h j t)) (qk h j t).j /\ rS kg (n8 h (qk h j t)).ob m (qk h j t).j /\ (qk h j t).j < m
 | 0, _ => ⟨⟨c, rfl, rfl, rfl, rfl, fun x => Iff.rfl, Nat.lt_of_lt_of_le hj hm⟩, hp, hj⟩
 | t + 1, ht => by
   obtain ⟨ih, ip, il⟩ := Ip c hj hm hp t (by omega)
   have hg := Mn (h := h) (j := j) (t := t) (by omega)
   unfold oS at hg; rw [Bool.and_eq_true, decide_eq_true_eq] at hg; obtain ⟨g0, g1⟩ := hg; have hpj : par (qk h j t).j < m := Nat.lt_of_le_of_lt kx il; have hbn := ih.c.dJ.n; have e : n8 h (qk h j (t + 1)) = bm (n8 h (qk h j t)) (par (qk h j t).j) (qk h j t).j := rfl; have ej : (qk h j (t + 1)).j = par (qk h j t).j := rfl; have hn1 : par (qk h j t).j < (n8 h (qk h j t)).n := Nat.lt_of_lt_of_le hpj hm; have hn2 : (qk h j t).j < (n8 h (qk h j t)).n := Nat.lt_of_lt_of_le il hm; obtain ⟨s1, s2⟩ := ih.sw hn1 hn2; have eo := jo (h := n8 h (qk h j t)) (Nat.lt_of_lt_of_le hn1 hbn) (Nat.lt_of_lt_of_le hn2 hbn); rw [e, ej]; refine ⟨⟨s1, rfl, rfl, ?_, ?_, s2, hn1⟩, ?_, hpj⟩
   ·exact jY.trans ih.l
   ·exact fm.trans ih.b
   ·rw [eo]; exact QU jV ip g0 il g1
theorem Bq {h : HM} {j m : Nat} (c : eF h) (hj : j < m) (hm : m <= h.n) (hp : rS kg h.ob m j) : wq h (p6 h j) (qk h j (I7 h j)).j /\ iF kg (p6 h j).ob m := by
 obtain ⟨a, b, d⟩ := Ip c hj hm hp (I7 h j) (Nat.le_refl _); refine ⟨a, Bz b ?_⟩
 have hg := Xi (h := h) (j := j) fun t ht => by
  have := Mn ht; unfold oS at this; rw [Bool.and_eq_true, decide_eq_true_eq] at this; exact this.1
 unfold oS at hg; rcases Nat.eq_zero_or_pos (qk h j (I7 h j)).j with q | q
 ·exact .inl q
 ·rw [decide_eq_true q, Bool.true_and] at hg; exact .inr hg
theorem HQ {h : HM} {m j t : Nat} (ht : t < y8 h m j) : nd (.t h.I) (pY h m j t) m = true := Gg ht
theorem YG {h : HM} {m j : Nat} : nd (.t h.I) (pY h m j (y8 h m j)) m = false := by
 have hu := MU (B := .t h.B) (I := .t h.I) (A := .t h.A) (m := m) (j := j) (y8 h m j); have hu : j + y8 h m j <= (pY h m j (y8 h m j)).j := hu; cases hq : nd (.t h.I) (pY h m j (y8 h m j)) m with
 | false => rfl
 | true =>
   exfalso; have h2 := NW hq
   have h3 := m8 (show stop (fun t => !nd (.t h.I) (dD (.t h.B) (.t h.I) (.t h.A) m j t) m) (m + 1) < m + 1 from by
    show y8 h m j < m + 1
    omega)
   have h4 : (!nd (.t h.I) (pY h m j (y8 h m j)) m) = true := h3; rw [hq] at h4; cases h4
theorem HZ {I : Dv} {s : HS} {m : Nat} : ∀ c, 0 < c -> c < m -> par c = s.j -> kg (pg I s.B s.A c) (pg I s.B s.A (gT I s m)) = false := fun c c0 cm hc => by
 rcases (kids c0).1 hc with e | e
 ·subst e; unfold gT; split
  ·rename_i q; rw [Bool.and_eq_true] at q; exact jV.asym _ _ q.2
  ·exact irr jV _
 ·subst e; unfold gT; split
  ·exact irr jV _
  ·rename_i q; rw [decide_eq_true cm, Bool.true_and, Bool.not_eq_true] at q; exact q
theorem GJ {h : HM} {j m : Nat} (c : eF h) (hj : j < h.n) (hm : m <= h.n) (hp : cz kg h.ob m j) : ∀ t, t <= y8 h m j -> wq h (n8 h (pY h m j t)) (pY h m j t).j /\ cz kg (n8 h (pY h m j t)).ob m (pY h m j t).j /\ (0 < t -> Fit kg (n8 h (pY h m j t)).ob (pY h m j t).j)
 | 0, _ => ⟨⟨c, rfl, rfl, rfl, rfl, fun x => Iff.rfl, hj⟩, hp, fun q => absurd q (Nat.lt_irrefl _)⟩
 | t + 1, ht => by
   obtain ⟨ih, ip, il⟩ := GJ c hj hm hp t (by omega)
   have hg := HQ (h := h) (m := m) (j := j) (t := t) (by omega)
   have hgm := NW hg; unfold nd at hg; rw [Bool.and_eq_true] at hg; have hk := Hp (I := .t h.I) hgm; have hbn := ih.c.dJ.n; have e : n8 h (pY h m j (t + 1)) = bm (n8 h (pY h m j t)) (pY h m j t).j (gT (.t h.I) (pY h m j t) m) := rfl; have ej : (pY h m j (t + 1)).j = gT (.t h.I) (pY h m j t) m := rfl; have hn1 : (pY h m j t).j < (n8 h (pY h m j t)).n := ih.j; have hn2 : gT (.t h.I) (pY h m j t) m < (n8 h (pY h m j t)).n := Nat.lt_of_lt_of_le hk hm; obtain ⟨s1, s2⟩ := ih.sw hn1 hn2; have eo := jo (h := n8 h (pY h m j t)) (Nat.lt_of_lt_of_le hn1 hbn) (Nat.lt_of_lt_of_le hn2 hbn)
   have hpk : par (gT (.t h.I) (pY h m j t) m) = (pY h m j t).j := by
    unfold gT par; split <;> omega
   have h0 : 0 < gT (.t h.I) (pY h m j t) m := Nat.lt_of_le_of_lt (Nat.zero_le _) Lr; have st := IJ jV ip hpk hk h0 hg.2 HZ; rw [e, ej]; refine ⟨⟨s1, rfl, rfl, ?_, ?_, s2, hn2⟩, ?_, fun _ => ?_⟩
   ·exact jY.trans ih.l
   ·exact fm.trans ih.b
   ·rw [eo]; exact st.1
   ·rw [eo]; exact st.2
theorem iL {h : HM} {j m : Nat} (c : eF h) (hj : j < h.n) (hm : m <= h.n) (hp : cz kg h.ob m j) :
    wq h (cO h m j) (BY h m j) /\ rS kg (cO h m j).ob m (BY h m j) /\ (j < BY h m j -> Fit kg (cO h m j).ob (BY h m j)) /\ (¬ j < BY h m j -> BY h m j = j) := by
 obtain ⟨a, b, d⟩ := GJ c hj hm hp (y8 h m j) (Nat.le_refl _); have he := YG (h := h) (m := m) (j := j); have hup : j + y8 h m j <= BY h m j := MU (B := .t h.B) (I := .t h.I) (A := .t h.A) (m := m) (j := j) (y8 h m j); refine ⟨a, down_up b fun k k0 km hk => ?_, fun q => ?_, fun q => by omega⟩
 ·unfold nd at he
  by_cases h2 : 2 * (pY h m j (y8 h m j)).j + 1 < m
  ·rw [decide_eq_true h2, Bool.true_and] at he; exact jV.tr _ _ _ he (HZ k k0 km hk)
  ·have := (kids k0).1 hk; show kg _ _ = false; exfalso; have h3 : BY h m j = (pY h m j (y8 h m j)).j := rfl; omega
 ·refine d ?_; rcases Nat.eq_zero_or_pos (y8 h m j) with q2 | q2
  ·exfalso
   have : BY h m j = j := by
    unfold BY; rw [q2]; rfl
   omega
  ·exact q2
theorem Gu {h : HM} {j m : Nat} (c : eF h) (hj : j < m) (hm : m <= h.n) (hp : cz kg h.ob m j) : eF (gx h m j) /\ iF kg (gx h m j).ob m /\ (gx h m j).n = h.n /\ (gx h m j).I = h.I /\ (gx h m j).A.length = h.A.length /\ (gx h m j).B.length = h.B.length /\ ∀ x, (gx h m j).mem x ↔ h.mem x := by
 obtain ⟨u, p, f, g⟩ := iL c (Nat.lt_of_lt_of_le hj hm) hm hp; unfold gx; split
 ·rename_i hl; refine ⟨u.c, Bz p ?_, u.n, u.i, u.l, u.b, u.m⟩; rcases Nat.eq_zero_or_pos (BY h m j) with q | q
  ·exact .inl q
  ·exact .inr (f hl q)
 ·rename_i hl; have e := g hl; rw [e] at p; have hn : (cO h m j).n = h.n := u.n; obtain ⟨u2, hh⟩ := Bq u.c hj (by rw [hn]; exact hm) p
  exact ⟨u2.c, hh, u2.n.trans u.n, u2.i.trans u.i, u2.l.trans u.l, u2.b.trans u.b, fun x => (u2.m x).trans (u.m x)⟩
theorem wK {I : List Row} (u : oC I) {r : Row} (hr : r ∈ I) {k : Dv} (e : ky r = k.S.toList) : dM (.t I) k = (cc r 1).I := by
 unfold dM; show (cc (row (.t I) (aP .s k I).toNat) 1).I = _; rw [YQ u hr e]
theorem Wf {I : List Row} (u : oC I) {x : Row} {k : Dv} (hh : 0 <= aP .s k I) (hne : k.S.toList ≠ ky x) : 0 <= aP .s k (jB .s I x) /\ dM (.t (jB .s I x)) k = dM (.t I) k := by
 obtain ⟨r, hr, e⟩ := ed.1 hh; have hr2 : r ∈ jB .s I x := (Bf u).2 (.inr ⟨hr, by rw [e]; exact hne⟩)
 exact ⟨ed.2 ⟨r, hr2, e⟩, by rw [wK (wb u) hr2 e, wK u hr e]⟩
theorem Xt {I : List Row} (u : oC I) {k v : Dv} : 0 <= aP .s k (jB .s I [k, v]) /\ dM (.t (jB .s I [k, v])) k = v.I := by
 have hr2 : [k, v] ∈ jB .s I [k, v] := (Bf u).2 (.inl rfl); exact ⟨ed.2 ⟨_, hr2, rfl⟩, wK (wb u) hr2 rfl⟩
theorem UG {I : List Row} (u : oC I) {k d : Dv} (hh : 0 <= aP .s k I) (hne : k.S.toList ≠ d.S.toList) : 0 <= aP .s k (nW .s I d) /\ dM (.t (nW .s I d)) k = dM (.t I) k := by
 obtain ⟨r, hr, e⟩ := ed.1 hh; have hr2 : r ∈ nW .s I d := (Ik u).2 ⟨hr, by rw [e]; exact hne⟩
 exact ⟨ed.2 ⟨r, hr2, e⟩, by rw [wK (Cw u) hr2 e, wK u hr e]⟩
theorem xH {l : List Row} {x : Row} {k : Nat} (h : k < l.length) : row (.t (l ++ [x])) k = row (.t l) k := by
 unfold row; show ((l ++ [x])[k]?).getD [] = _; rw [List.getElem?_append_left h]; rfl
theorem yl {l : List Row} {x : Row} : row (.t (l ++ [x])) l.length = x := by
 unfold row; show ((l ++ [x])[l.length]?).getD [] = _; rw [List.getElem?_append_right (Nat.le_refl _), Nat.sub_self]; rfl
theorem LU {l : List Row} {n k : Nat} (h : k < n) : row (.t (l.take n)) k = row (.t l) k := by
 unfold row; show ((l.take n)[k]?).getD [] = _; rw [List.getElem?_take_of_lt h]; rfl
structure gk (h : HM) : Prop where
 c : eF h
 hp : iF kg h.ob h.n
def bV (h : HM) (k any : Dv) : HM := ⟨h.B.take h.n ++ [[k]], h.n + 1, jB .s h.I [k, .i h.A.length], h.A ++ [[any, .i h.n]]⟩
def jH (h : HM) (k any : Dv) : HM := p6 (bV h k any) h.n
structure jr (any k : Dv) : Prop where
 b : bad (row any 0) = false
 o : iD (row any 0)
 k : (kO (row any 0)).toList = k.S.toList
section
variable {h : HM} {k any : Dv}
theorem Hm (hn : h.n <= h.B.length) : (∀ i, i < h.n -> (bV h k any).key i = h.key i) /\ (bV h k any).key h.n = k := by
 have e : (h.B.take h.n).length = h.n := by rw [List.length_take]; omega
 constructor
 ·intro i hi; show cc (row (.t (h.B.take h.n ++ [[k]])) i) 0 = cc (row (.t h.B) i) 0; rw [xH (by omega), LU hi]
 ·show cc (row (.t (h.B.take h.n ++ [[k]])) h.n) 0 = k; have := yl (l := h.B.take h.n) (x := [k]); rw [e] at this; rw [this]; rfl
theorem CC (c : eF h) (hf : ¬ 0 <= aP .s k h.I) : (∀ i, i < h.n -> 0 <= aP .s ((bV h k any).key i) (bV h k any).I /\ dM (.t (bV h k any).I) ((bV h k any).key i) = dM (.t h.I) (h.key i)) /\
    0 <= aP .s ((bV h k any).key h.n) (bV h k any).I /\ dM (.t (bV h k any).I) ((bV h k any).key h.n) = h.A.length := by
 obtain ⟨k1, k2⟩ := Hm (k := k) (any := any) c.dJ.n; constructor
 ·intro i hi; rw [k1 i hi]; refine Wf c.u (c.dJ.k i hi) fun e => hf ?_; obtain ⟨r, hr, e2⟩ := ed.1 (c.dJ.k i hi); exact ed.2 ⟨r, hr, e2.trans e⟩
 ·rw [k2]; exact Xt c.u
theorem QO {A : List Row} {x : Row} {s : Nat} (hs : s < A.length) : yo (A ++ [x]) s = yo A s := by
 unfold yo mh; rw [xH hs]
theorem FK (c : eF h) (hf : ¬ 0 <= aP .s k h.I) : (∀ i, i < h.n -> (bV h k any).ob i = h.ob i) /\ (bV h k any).ob h.n = row any 0 := by
 obtain ⟨s1, s2, s3⟩ := CC (any := any) c hf; constructor
 ·intro i hi; show yo (h.A ++ [[any, .i h.n]]) (dM (.t (bV h k any).I) ((bV h k any).key i)).toNat = yo h.A (dM (.t h.I) (h.key i)).toNat; rw [(s1 i hi).2, QO (show (dM (.t h.I) (h.key i)).toNat < h.A.length from c.dJ.l i hi)]
 ·show yo (h.A ++ [[any, .i h.n]]) (dM (.t (bV h k any).I) ((bV h k any).key h.n)).toNat = _; rw [s3, Int.toNat_natCast]; unfold yo mh; rw [yl (l := h.A)]; rfl
theorem rn (c : eF h) (hf : ¬ 0 <= aP .s k h.I) (hc : jr any k) : eF (bV h k any) := by
 obtain ⟨k1, k2⟩ := Hm (k := k) (any := any) c.dJ.n; obtain ⟨s1, s2, s3⟩ := CC (any := any) c hf; obtain ⟨o1, o2⟩ := FK (any := any) c hf
 have hfk : ∀ i, i < h.n -> (h.key i).S.toList ≠ k.S.toList := fun i hi e => hf (by
  obtain ⟨r, hr, e2⟩ := ed.1 (c.dJ.k i hi)
  exact ed.2 ⟨r, hr, e2.trans e⟩)
 have split : ∀ {P : Nat -> Prop}, (∀ i, i < h.n -> P i) -> P h.n -> ∀ i, i < (bV h k any).n -> P i := fun {P} p1 p2 i hi => by
  rcases Nat.lt_or_ge i h.n with q | q
  ·exact p1 i q
  ·have : i = h.n := by
     have : i < h.n + 1 := hi; omega
   rw [this]; exact p2
 have two : ∀ {R : Nat -> Nat -> Prop}, (∀ i j, i < h.n -> j < h.n -> R i j) -> (∀ i, i < h.n -> R i h.n) -> (∀ j, j < h.n -> R h.n j) -> R h.n h.n -> ∀ i j, i < (bV h k any).n -> j < (bV h k any).n -> R i j := fun {R} p1 p2 p3 p4 i j hi hj =>
  split (P := fun i => R i j) (fun i hi => split (P := fun j => R i j) (fun j hj => p1 i j hi hj) (p2 i hi) j hj) (split (P := fun j => R h.n j) p3 p4 j hj) i hi
 refine ⟨⟨?_, ?_, ?_, ?_, ?_, ?_⟩, ?_, wb c.u, ?_, ?_, ?_, ?_⟩
 ·show h.n + 1 <= (h.B.take h.n ++ [[k]]).length; rw [List.length_append, List.length_take]; have := c.dJ.n; simp only [List.length_cons, List.length_nil]; omega
 ·exact split (fun i hi => (s1 i hi).1) s2
 ·refine split (fun i hi => ?_) ?_
  ·show 0 <= dM (.t (bV h k any).I) ((bV h k any).key i); rw [(s1 i hi).2]; exact c.dJ.i i hi
  ·show 0 <= dM (.t (bV h k any).I) ((bV h k any).key h.n); rw [s3]; omega
 ·refine split (fun i hi => ?_) ?_
  ·show (dM (.t (bV h k any).I) ((bV h k any).key i)).toNat < (h.A ++ [[any, .i h.n]]).length; rw [(s1 i hi).2, List.length_append]; exact Nat.lt_of_lt_of_le (c.dJ.l i hi) (Nat.le_add_right _ _)
  ·show (dM (.t (bV h k any).I) ((bV h k any).key h.n)).toNat < (h.A ++ [[any, .i h.n]]).length; rw [s3, List.length_append, Int.toNat_natCast]; exact Nat.lt_succ_self _
 ·refine split (fun i hi => ?_) ?_
  ·show bad ((bV h k any).ob i) = false; rw [o1 i hi]; exact c.dJ.b i hi
  ·show bad ((bV h k any).ob h.n) = false; rw [o2]; exact hc.b
 ·refine split (fun i hi => ?_) ?_
  ·show iD ((bV h k any).ob i); rw [o1 i hi]; exact c.dJ.o i hi
  ·show iD ((bV h k any).ob h.n); rw [o2]; exact hc.o
 ·refine two (R := fun i j => ((bV h k any).key i).S.toList = ((bV h k any).key j).S.toList -> i = j) (fun i j hi hj e => ?_) (fun i hi e => ?_) (fun j hj e => ?_) fun _ => rfl
  ·rw [k1 i hi, k1 j hj] at e; exact c.d i j hi hj e
  ·rw [k1 i hi, k2] at e; exact absurd e (hfk i hi)
  ·rw [k1 j hj, k2] at e; exact absurd e.symm (hfk j hj)
 ·intro r hr; rcases (Bf c.u).1 hr with rfl | ⟨hr, _⟩
  ·exact ⟨h.n, Nat.lt_succ_self _, by rw [k2]; rfl⟩
  ·obtain ⟨i, hi, e⟩ := c.r r hr; exact ⟨i, Nat.lt_succ_of_lt hi, by rw [k1 i hi]; exact e⟩
 ·have sl : ∀ i, i < h.n -> (bV h k any).slot i = h.slot i := fun i hi => congrArg Int.toNat (s1 i hi).2; have sn : (bV h k any).slot h.n = h.A.length := (congrArg Int.toNat s3).trans (Int.toNat_natCast _); have lt : ∀ i, i < h.n -> h.slot i < h.A.length := c.dJ.l; refine two (R := fun i j => (bV h k any).slot i = (bV h k any).slot j -> i = j) (fun i j hi hj e => ?_) (fun i hi e => ?_) (fun j hj e => ?_) fun _ => rfl
  ·rw [sl i hi, sl j hj] at e; exact c.x i j hi hj e
  ·rw [sl i hi, sn] at e; have := lt i hi; omega
  ·rw [sl j hj, sn] at e; have := lt j hj; omega
 ·refine split (fun i hi => ?_) ?_
  ·show cc (row (.t (h.A ++ [[any, .i h.n]])) (dM (.t (bV h k any).I) ((bV h k any).key i)).toNat) 1 = .i (i : Int); rw [(s1 i hi).2, xH (show (dM (.t h.I) (h.key i)).toNat < h.A.length from c.dJ.l i hi)]; exact c.p i hi
  ·show cc (row (.t (h.A ++ [[any, .i h.n]])) (dM (.t (bV h k any).I) ((bV h k any).key h.n)).toNat) 1 = .i (h.n : Int); rw [s3, Int.toNat_natCast, yl (l := h.A)]; rfl
 ·refine split (fun i hi => ?_) ?_
  ·rw [o1 i hi, k1 i hi]; exact c.k i hi
  ·rw [o2, k2]; exact hc.k
theorem PG (c : eF h) (hf : ¬ 0 <= aP .s k h.I) (x : Row) : (bV h k any).mem x ↔ x = row any 0 \/ h.mem x := by
 obtain ⟨o1, o2⟩ := FK (any := any) c hf; constructor
 ·rintro ⟨i, hi, e⟩; rcases Nat.lt_or_ge i h.n with q | q
  ·exact .inr ⟨i, q, by rw [<- o1 i q]; exact e⟩
  ·have : i = h.n := by
     have : i < h.n + 1 := hi; omega
   subst this; exact .inl (by rw [<- e, o2])
 ·rintro (rfl | ⟨i, hi, e⟩)
  ·exact ⟨h.n, Nat.lt_succ_self _, o2⟩
  ·exact ⟨i, Nat.lt_succ_of_lt hi, by rw [o1 i hi]; exact e⟩
theorem Qk (v : gk h) (hf : ¬ 0 <= aP .s k h.I) (hc : jr any k) : gk (jH h k any) /\ (∀ x, (jH h k any).mem x ↔ x = row any 0 \/ h.mem x) /\ (jH h k any).n = h.n + 1 /\ (jH h k any).A.length = h.A.length + 1 /\ (jH h k any).B.length = h.n + 1 /\ (jH h k any).I = jB .s h.I [k, .i h.A.length] := by
 obtain ⟨o1, o2⟩ := FK (any := any) v.c hf; have c := rn v.c hf hc
 have hp : iF kg (bV h k any).ob h.n := fun i i0 hi => by
  rw [o1 i hi, o1 _ (Nat.lt_of_le_of_lt kx hi)]; exact v.hp i i0 hi
 obtain ⟨u, q⟩ := Bq c (Nat.lt_succ_self h.n) (Nat.le_refl _) (Uu hp); refine ⟨⟨u.c, ?_⟩, fun x => (u.m x).trans (PG v.c hf x), u.n, u.l.trans ?_, u.b.trans ?_, u.i⟩
 ·show iF kg _ (p6 (bV h k any) h.n).n; rw [u.n]; exact q
 ·show (h.A ++ [_]).length = _; rw [List.length_append]; rfl
 ·show (h.B.take h.n ++ [_]).length = _; have := v.c.dJ.n; rw [List.length_append, List.length_take]; simp only [List.length_cons, List.length_nil]; omega
end
theorem abL {I : List Row} (u : oC I) {k k' : Dv} (hh : 0 <= aP .s k I) (e : k.S.toList = k'.S.toList) : dM (.t I) k = dM (.t I) k' := by
 obtain ⟨r, hr, q⟩ := ed.1 hh; rw [wK u hr q, wK u hr (q.trans e)]
theorem ye {h : HM} (c : eF h) {k : Dv} (hh : 0 <= aP .s k h.I) : ∃ i, i < h.n /\ (h.key i).S.toList = k.S.toList /\ dM (.t h.I) k = dM (.t h.I) (h.key i) := by
 obtain ⟨r, hr, q⟩ := ed.1 hh; obtain ⟨i, hi, e⟩ := c.r r hr; exact ⟨i, hi, e.trans q, abL c.u hh (e.trans q).symm⟩
def bc (h : HM) (k any : Dv) : HM := ⟨h.B, h.n, h.I, h.A.set (dM (.t h.I) k).toNat [any, cc (row (.t h.A) (dM (.t h.I) k).toNat) 1]⟩
def gq (h : HM) (k : Dv) : Int := (cc (row (.t h.A) (dM (.t h.I) k).toNat) 1).I
section
variable {h : HM} {k any : Dv} {i : Nat}
theorem AV (c : eF h) (hi : i < h.n) (e : dM (.t h.I) k = dM (.t h.I) (h.key i)) : (∀ j, j < h.n -> j ≠ i -> (bc h k any).ob j = h.ob j) /\ (bc h k any).ob i = row any 0 := by
 have hl : (dM (.t h.I) k).toNat < h.A.length := by rw [e]; exact c.dJ.l i hi
 constructor
 ·intro j hj hne; show yo (h.A.set _ _) (h.slot j) = yo h.A (h.slot j); unfold yo mh; rw [pv hl, if_neg]; intro q; rw [e] at q; exact hne (c.x j i hj hi q)
 ·show yo (h.A.set _ _) (h.slot i) = _; unfold yo mh; rw [pv hl, if_pos (by rw [e]; rfl)]; rfl
theorem wQ (c : eF h) (hi : i < h.n) (e : dM (.t h.I) k = dM (.t h.I) (h.key i)) (hk : (h.key i).S.toList = k.S.toList) (hc : jr any k) : eF (bc h k any) := by
 have hl : (dM (.t h.I) k).toNat < h.A.length := by rw [e]; exact c.dJ.l i hi
 obtain ⟨o1, o2⟩ := AV (any := any) c hi e; refine ⟨⟨c.dJ.n, c.dJ.k, c.dJ.i, fun j hj => ?_, fun j hj => ?_, fun j hj => ?_⟩, c.d, c.u, c.r, c.x, fun j hj => ?_, fun j hj => ?_⟩
 ·show _ < (h.A.set _ _).length; rw [List.length_set]; exact c.dJ.l j hj
 ·by_cases q : j = i
  ·subst q; show bad ((bc h k any).ob j) = false; rw [o2]; exact hc.b
  ·show bad ((bc h k any).ob j) = false; rw [o1 j hj q]; exact c.dJ.b j hj
 ·by_cases q : j = i
  ·subst q; show iD ((bc h k any).ob j); rw [o2]; exact hc.o
  ·show iD ((bc h k any).ob j); rw [o1 j hj q]; exact c.dJ.o j hj
 ·show cc (row (.t (h.A.set _ _)) (h.slot j)) 1 = .i (j : Int); rw [pv hl]; split
  ·rename_i q; show cc (row (.t h.A) _) 1 = .i (j : Int); rw [<- q]; exact c.p j hj
  ·exact c.p j hj
 ·by_cases q : j = i
  ·subst q; show (kO ((bc h k any).ob j)).toList = (h.key j).S.toList; rw [o2, hk]; exact hc.k
  ·show (kO ((bc h k any).ob j)).toList = (h.key j).S.toList; rw [o1 j hj q]; exact c.k j hj
theorem R8 (c : eF h) (hi : i < h.n) (e : dM (.t h.I) k = dM (.t h.I) (h.key i)) (hk : (h.key i).S.toList = k.S.toList) (x : Row) : (bc h k any).mem x ↔ x = row any 0 \/ (h.mem x /\ (kO x).toList ≠ k.S.toList) := by
 obtain ⟨o1, o2⟩ := AV (any := any) c hi e; constructor
 ·rintro ⟨j, hj, q⟩
  by_cases hji : j = i
  ·subst hji; exact .inl (by rw [<- q, o2])
  ·rw [o1 j hj hji] at q; refine .inr ⟨⟨j, hj, q⟩, fun q2 => hji (c.d j i hj hi ?_)⟩; rw [<- c.k j hj, q, q2, hk]
 ·rintro (rfl | ⟨⟨j, hj, q⟩, hne⟩)
  ·exact ⟨i, hi, o2⟩
  ·have hji : j ≠ i := fun e2 => hne (by rw [<- q, e2, c.k i hi, hk])
   exact ⟨j, hj, by rw [o1 j hj hji]; exact q⟩
def fo (h : HM) (k any : Dv) : HM := gx (bc h k any) h.n (gq (bc h k any) k).toNat
theorem ow (v : gk h) (hh : 0 <= aP .s k h.I) (hc : jr any k) : gk (fo h k any) /\ (∀ x, (fo h k any).mem x ↔ x = row any 0 \/ (h.mem x /\ (kO x).toList ≠ k.S.toList)) /\ (fo h k any).n = h.n /\ (fo h k any).A.length = h.A.length /\ (fo h k any).B.length = h.B.length /\ (fo h k any).I = h.I /\
    0 <= gq (bc h k any) k /\ (gq (bc h k any) k).toNat < h.n := by
 obtain ⟨i, hi, hk, e⟩ := ye v.c hh; have c := wQ (any := any) v.c hi e hk hc; obtain ⟨o1, o2⟩ := AV (any := any) v.c hi e
 have hj : gq (bc h k any) k = i := by
  have := congrArg Dv.I (c.p i hi); unfold gq; show (cc (row (.t (bc h k any).A) (dM (.t h.I) k).toNat) 1).I = i; rw [e]; exact this
 have hp : cz kg (bc h k any).ob h.n i := by
  have := BH (H := h.ob) (H' := fun j => if j < h.n then (bc h k any).ob j else h.ob j) jV v.hp (fun j hj => by
   split
   ·rename_i q; exact o1 j q hj
   ·rfl) hi
  refine ⟨fun j j0 jn ji pj => ?_, fun i0 a a0 an ha => ?_⟩
  ·have q := this.a j j0 jn ji pj; rwa [if_pos jn, if_pos (Nat.lt_of_le_of_lt kx jn)] at q
  ·have q := this.b i0 a a0 an ha; rwa [if_pos an, if_pos (Nat.lt_of_le_of_lt kx hi)] at q
 have hf := Gu (h := bc h k any) (j := i) c hi (Nat.le_refl _) hp
 have he : fo h k any = gx (bc h k any) h.n i := by
  unfold fo; rw [hj, Int.toNat_natCast]
 rw [he, hj]; refine ⟨⟨hf.1, ?_⟩, fun x => (hf.2.2.2.2.2.2 x).trans (R8 v.c hi e hk x), hf.2.2.1, hf.2.2.2.2.1.trans (List.length_set ..), hf.2.2.2.2.2.1, hf.2.2.2.1, by omega, by rw [Int.toNat_natCast]; exact hi⟩
 rw [hf.2.2.1]; exact hf.2.1
end
theorem rP {h : HM} {k any : Dv} (v : gk h) (hh : 0 <= aP .s k h.I) (hc : jr any k) : wq (bc h k any) (cO (bc h k any) h.n (gq (bc h k any) k).toNat) (BY (bc h k any) h.n (gq (bc h k any) k).toNat) := by
 obtain ⟨i, hi, hk, e⟩ := ye v.c hh; have c := wQ (any := any) v.c hi e hk hc; obtain ⟨o1, o2⟩ := AV (any := any) v.c hi e
 have hj : gq (bc h k any) k = i := by
  have := congrArg Dv.I (c.p i hi); unfold gq; show (cc (row (.t (bc h k any).A) (dM (.t h.I) k).toNat) 1).I = i; rw [e]; exact this
 have hp : cz kg (bc h k any).ob h.n i := by
  have := BH (H := h.ob) (H' := fun j => if j < h.n then (bc h k any).ob j else h.ob j) jV v.hp (fun j hj => by
   split
   ·rename_i q; exact o1 j q hj
   ·rfl) hi
  refine ⟨fun j j0 jn ji pj => ?_, fun i0 a a0 an ha => ?_⟩
  ·have q := this.a j j0 jn ji pj; rwa [if_pos jn, if_pos (Nat.lt_of_le_of_lt kx jn)] at q
  ·have q := this.b i0 a a0 an ha; rwa [if_pos an, if_pos (Nat.lt_of_le_of_lt kx hi)] at q
 rw [hj, Int.toNat_natCast]; exact (iL c hi (Nat.le_refl _) hp).1
def dQ (h : HM) (m : Nat) : HM := ⟨h.B, m, nW .s h.I (h.key m), h.A⟩
theorem A7 {h : HM} {m : Nat} (c : eF h) (hn : h.n = m + 1) (hp : iF kg h.ob m) : gk (dQ h m) /\ (∀ x, (dQ h m).mem x ↔ h.mem x /\ (kO x).toList ≠ (h.key m).S.toList) := by
 have lt : ∀ {i}, i < m -> i < h.n := fun q => by omega
 have hm : m < h.n := by omega
 have ne : ∀ i, i < m -> (h.key i).S.toList ≠ (h.key m).S.toList := fun i hi e => by
  have := c.d i m (lt hi) hm e; omega
 have s : ∀ i, i < m -> 0 <= aP .s (h.key i) (dQ h m).I /\ dM (.t (dQ h m).I) (h.key i) = dM (.t h.I) (h.key i) := fun i hi => UG c.u (c.dJ.k i (lt hi)) (ne i hi)
 have o : ∀ i, i < m -> (dQ h m).ob i = h.ob i := fun i hi => by
  show yo h.A (dM (.t (dQ h m).I) (h.key i)).toNat = yo h.A (dM (.t h.I) (h.key i)).toNat; rw [(s i hi).2]
 have sl : ∀ i, i < m -> (dQ h m).slot i = h.slot i := fun i hi => congrArg Int.toNat (s i hi).2; refine ⟨⟨⟨⟨?_, fun i hi => (s i hi).1, fun i hi => ?_, fun i hi => ?_, fun i hi => ?_, fun i hi => ?_⟩, fun i j hi hj e => c.d i j (lt hi) (lt hj) e, Cw c.u, fun r hr => ?_, fun i j hi hj e => ?_, fun i hi => ?_, fun i hi => ?_⟩, fun i i0 hi => ?_⟩, fun x => ?_⟩
 ·have := c.dJ.n; show m <= h.B.length; omega
 ·show 0 <= dM (.t (dQ h m).I) (h.key i); rw [(s i hi).2]; exact c.dJ.i i (lt hi)
 ·show (dM (.t (dQ h m).I) (h.key i)).toNat < _; rw [(s i hi).2]; exact c.dJ.l i (lt hi)
 ·show bad ((dQ h m).ob i) = false; rw [o i hi]; exact c.dJ.b i (lt hi)
 ·show iD ((dQ h m).ob i); rw [o i hi]; exact c.dJ.o i (lt hi)
 ·obtain ⟨hr, hne⟩ := (Ik c.u).1 hr; obtain ⟨i, hi, e⟩ := c.r r hr; refine ⟨i, ?_, e⟩; show i < m; rcases Nat.lt_or_ge i m with q | q
  ·exact q
  ·have : i = m := by omega
   subst this; exact absurd e.symm hne
 ·rw [sl i hi, sl j hj] at e; exact c.x i j (lt hi) (lt hj) e
 ·rw [sl i hi]; exact c.p i (lt hi)
 ·rw [o i hi]; exact c.k i (lt hi)
 ·rw [o i hi, o _ (Nat.lt_of_le_of_lt kx hi)]; exact hp i i0 hi
 ·constructor
  ·rintro ⟨i, hi, q⟩; have hi : i < m := hi; rw [o i hi] at q; refine ⟨⟨i, lt hi, q⟩, ?_⟩; rw [<- q, c.k i (lt hi)]; exact ne i hi
  ·rintro ⟨⟨i, hi, q⟩, hne⟩
   have : i < m := by
    rcases Nat.lt_or_ge i m with q2 | q2
    ·exact q2
    ·have : i = m := by omega
     subst this; exact absurd (by rw [<- q, c.k i hi]) hne
   exact ⟨i, this, by rw [o i this]; exact q⟩
theorem Hc {h : HM} {j m : Nat} (hj : j < m) (hm : m <= h.B.length) : ∀ t k, m <= k -> mh (qk h j t).B k = mh h.B k
 | 0, _, _ => rfl
 | t + 1, k, hk => by
   have ih := Hc hj hm t k hk; have hl := W8 (B := .t h.B) (I := .t h.I) (A := .t h.A) (j := j) t; have hjt := YU (B := .t h.B) (I := .t h.I) (A := .t h.A) (j := j) t; have hjt : (qk h j t).j <= j := hjt; have hbl : (qk h j t).B.length = h.B.length := hl.1; have hpl := kx (j := (qk h j t).j); show mh (zg (qk h j t).B (par (qk h j t).j) (qk h j t).j) k = _; rw [uy (by omega) (by omega), oZ (by omega) (by omega), ih]
theorem uY {h : HM} {j m : Nat} (hm : m <= h.B.length) : ∀ t k, t <= y8 h m j -> m <= k -> mh (pY h m j t).B k = mh h.B k
 | 0, _, _, _ => rfl
 | t + 1, k, ht, hk => by
   have ih := uY (j := j) hm t k (by omega) hk
   have hl := FA (B := .t h.B) (I := .t h.I) (A := .t h.A) (m := m) (j := j) t; have hbl : (pY h m j t).B.length = h.B.length := hl.1; have hg := NW (HQ (h := h) (m := m) (j := j) (t := t) (by omega))
   have hkm := Hp (I := .t h.I) hg; show mh (zg (pY h m j t).B (pY h m j t).j (gT (.t h.I) (pY h m j t) m)) k = _; rw [uy (by omega) (by omega), oZ (by omega) (by omega), ih]
theorem Lo {h : HM} {j m k : Nat} (hj : j < m) (hm : m <= h.B.length) (hk : m <= k) : (gx h m j).key k = h.key k := by
 have hd : (cO h m j).key k = h.key k := uY hm _ k (Nat.le_refl _) hk; have hl := FA (B := .t h.B) (I := .t h.I) (A := .t h.A) (m := m) (j := j) (y8 h m j); unfold gx; split
 ·exact hd
 ·refine Eq.trans ?_ hd
  exact Hc (h := cO h m j) hj (by
   have : (cO h m j).B.length = h.B.length := hl.1
   omega) _ k hk
def jf (h : HM) (i : Nat) : HM := if i = h.n - 1 then dQ h (h.n - 1) else dQ (gx (bm h i (h.n - 1)) (h.n - 1) i) (h.n - 1)
theorem Yn {h : HM} {i : Nat} (v : gk h) (hi : i < h.n) : gk (jf h i) /\ ∀ x, (jf h i).mem x ↔ h.mem x /\ (kO x).toList ≠ (h.key i).S.toList := by
 have hn := v.c.dJ.n; unfold jf; split
 ·rename_i e; obtain ⟨a, b⟩ := A7 (m := h.n - 1) v.c (by omega) fun k k0 hk => v.hp k k0 (by omega)
  rw [e]; exact ⟨a, b⟩
 ·rename_i e; have hm : h.n - 1 < h.n := by omega
  have c := fu v.c hi hm; have hb : h.n - 1 < h.B.length := by omega
  have hpd : cz kg (bm h i (h.n - 1)).ob (h.n - 1) i := by
   rw [jo (by omega) hb]
   refine dA jV ?_ (by omega)
   rw [show h.n - 1 + 1 = h.n by omega]
   exact v.hp
  have hsn : (bm h i (h.n - 1)).n = h.n := rfl; obtain ⟨f1, f2, f3, f4, f5, f6, f7⟩ := Gu c (show i < h.n - 1 by omega) (by rw [hsn]; omega) hpd
  obtain ⟨a, b⟩ := A7 (m := h.n - 1) f1 (by rw [f3, hsn]; omega) f2
  have hbl : (bm h i (h.n - 1)).B.length = h.B.length := fm
  have hk : (gx (bm h i (h.n - 1)) (h.n - 1) i).key (h.n - 1) = h.key i := by
   rw [Lo (show i < h.n - 1 by omega) (by rw [hbl]; omega) (Nat.le_refl _), zU (by omega) hb, tX]
  refine ⟨a, fun x => ?_⟩; rw [b, hk, f7, Bx hi hm hn]
def tZ (h : HM) : HM := dQ (cO (bm h 0 (h.n - 1)) (h.n - 1) 0) (h.n - 1)
theorem LO {h : HM} (v : gk h) (h0 : 0 < h.n) : gk (tZ h) /\ (∀ x, (tZ h).mem x ↔ h.mem x /\ (kO x).toList ≠ (h.key 0).S.toList) /\ (∀ k, k < h.n -> kg (h.ob k) (h.ob 0) = false) := by
 have hn := v.c.dJ.n; have hm : h.n - 1 < h.n := by omega
 have c := fu v.c h0 hm; have hb : h.n - 1 < h.B.length := by omega
 have hsn : (bm h 0 (h.n - 1)).n = h.n := rfl
 have hpd : cz kg (bm h 0 (h.n - 1)).ob (h.n - 1) 0 := by
  rcases Nat.eq_zero_or_pos (h.n - 1) with q | q
  ·rw [q]; exact ⟨fun k k0 kn => by omega, fun q => absurd q (Nat.lt_irrefl _)⟩
  ·rw [jo (by omega) hb]
   refine dA jV ?_ q; rw [show h.n - 1 + 1 = h.n by omega]
   exact v.hp
 obtain ⟨u, p, f, g⟩ := iL c (j := 0) (m := h.n - 1) (by rw [hsn]; exact h0) (by rw [hsn]; omega) hpd
 have hh : iF kg (cO (bm h 0 (h.n - 1)) (h.n - 1) 0).ob (h.n - 1) := Bz p (by
  rcases Nat.eq_zero_or_pos (BY (bm h 0 (h.n - 1)) (h.n - 1) 0) with q | q
  ·exact .inl q
  ·exact .inr (f q q))
 obtain ⟨a, b⟩ := A7 (m := h.n - 1) u.c (by rw [u.n, hsn]; omega) hh
 have hbl : (bm h 0 (h.n - 1)).B.length = h.B.length := fm
 have hk : (cO (bm h 0 (h.n - 1)) (h.n - 1) 0).key (h.n - 1) = h.key 0 := by
  have : (cO (bm h 0 (h.n - 1)) (h.n - 1) 0).key (h.n - 1) = (bm h 0 (h.n - 1)).key (h.n - 1) := uY (by rw [hbl]; omega) _ _ (Nat.le_refl _) (Nat.le_refl _)
  rw [this, zU (by omega) hb, tX]
 refine ⟨a, fun x => ?_, root jV v.hp⟩; show (dQ _ _).mem x ↔ _; rw [b, hk, u.m, Bx h0 hm hn]
theorem Ch (k : ByteArray) : jx [.s k] = k.toList := by
 unfold jx; rw [toList_data]; rfl
theorem zi {S : List Row} (h : Lj S) : eL (S.map bW) = S.map bW := by
 unfold eL
 have e : (S.map bW).map jx = S.map kl := by
  rw [List.map_map]; exact List.map_congr_left fun r _ => Ch _
 rw [e, List.mergeSort_of_pairwise]
 ·rw [List.map_map]; refine List.map_congr_left fun r _ => ?_; show LH (kl r) = bW r; unfold LH bW kl
  congr 2
  rw [toList_data]
 ·refine List.pairwise_map.2 (h.imp fun {a b} hl => ?_); unfold leB; have := List.lt_asymm hl; simpa using List.not_lt.1 this
section
variable {S M : List Row} {now ttl : Int}
end
theorem Fe {l : Dv} {n : Nat} (hn : n < l.T.length) : jD (.t (l.T.map lk)) n = nine (row l n) := by
 unfold jD; rw [nB hn]; rfl
theorem Kv {l : Dv} {n : Nat} (hn : n < l.T.length) : qa (.t (l.T.map lk)) n ↔ qb l n := by
 unfold qa qb; rw [Fe hn]; exact Iff.rfl
theorem Lc {l : Dv} : ep (qa (.t (l.T.map lk))) (Dv.t (l.T.map lk)).T.length ↔ ep (qb l) l.T.length := by
 have e : (Dv.t (l.T.map lk)).T.length = l.T.length := List.length_map ..; rw [e]; exact ⟨fun h j hj => (Kv hj).1 (h j hj), fun h j hj => (Kv hj).2 (h j hj)⟩
theorem GZ {l : Dv} (h : ew l.T) : Aq (.t (l.T.map lk)) := fun j hj => by
 have hj : j < l.T.length := by rw [OQ, List.length_map] at hj; exact hj
 rw [Fe hj]; exact gw h hj
structure SpG (s : Sp) : Prop where
 g : Good s.S
 u : oC s.M
end Go.Proofs.YtdlppkhmmclipaaGreat.sxObj
