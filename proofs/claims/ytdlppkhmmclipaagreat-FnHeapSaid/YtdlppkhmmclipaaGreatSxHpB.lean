/-
  A HEAP: what is put in, changed and taken out.
-/
import Derived.Test.YtdlppkhmmclipaaGreatSxHpA
namespace Go.Proofs.YtdlppkhmmclipaaGreat.sxObj
open Go.Sx Go.RowKit Go.Proofs.YtdlppkhmmclipaaGreat
set_option linter.unusedVariables false
set_option linter.unusedSimpArgs false
set_option maxRecDepth 100000
theorem VL {env : Env} {a b : E} : (E.o2 .byte a b).den env = .i ((((a.den env).S.data[(b.den env).I.toNat]?.getD 0).toNat : Nat) : Int) := id rfl
theorem N9 {env : Env} {a b : E} : ((E.o2 .byte a b).den env).I = ((((a.den env).S.data[(b.den env).I.toNat]?.getD 0).toNat : Nat) : Int) := id rfl
theorem Kf : (ByteArray.mk [].toArray).toList = [] := by rw [toList_data]
theorem ad9 {B : Nat -> Bool} {n r : Nat} (h : B r = true) : stop B n <= r := Nat.le_of_not_lt fun hl => by
 have := bI hl; rw [h] at this; cases this
theorem OP {l : Dv} {r : Nat} : KE l (cc (row l r) 0) (cc (row l r) 1) r = true := by unfold KE; simp
section
variable {o : Env}
theorem Xn (hu : OU o) {r : Nat} (hr : o.v 2120 = .i r) (hent : (YQ.aU 0).ay o) (hle : (r : Int) <= ((Vi (.v 7300) (.v 7301) (.v 7302)).den o).I) : bn o ixL := by
 simp only [YQ, GK, yj, aB, adQ, Vi, pk, List.foldr, SS, implies_true, hu.QF, hu.aaU] at hent hle; have h1 := @Dg (KE (o.v 7300) (o.v 7301) (o.v 7302)) (o.v 7300).T.length r (by show r <= J4 _ _ _; omega)
 have h2 := @rS (KE (o.v 7300) (o.v 7301) (o.v 7302)) (o.v 7300).T.length r (by show r <= J4 _ _ _; omega)
 have h3 := hent.2; simp only [ixL, af, au, and_true]
 and_intros
 all_goals intro h
 all_goals simp only [SS, implies_true, hr, hu.QF] at h ⊢
 ·have hb : KE (o.v 7300) (o.v 7301) (o.v 7302) r = true := by
    unfold KE; rw [<- h.1, <- h.2.1]; simp
  have h4 : J4 (o.v 7300) (o.v 7301) (o.v 7302) <= r := by
   refine Nat.le_of_not_lt fun hl => ?_; have := bI hl; rw [hb] at this; cases this
  omega
 ·have hb : KE (o.v 7300) (o.v 7301) (o.v 7302) r = false := by
    unfold KE; rw [<- h.2.1]; simp only [Bool.and_eq_false_iff, beq_eq_false_iff_ne]; exact .inr fun e => h.1 e.symm
  have := h2 (by omega) hb
  show (r : Int) < (J4 _ _ _ : Nat); unfold J4; omega
 ·have hb : KE (o.v 7300) (o.v 7301) (o.v 7302) r = false := by
    unfold KE; simp only [Bool.and_eq_false_iff, beq_eq_false_iff_ne]; exact .inl fun e => h.1 e.symm
  have := h2 (by omega) hb
  show (r : Int) < (J4 _ _ _ : Nat); unfold J4; omega
 ·omega
theorem WG (hu : OU o) : bn o coL := by
 simp only [coL, af, au, and_true]; intro h; simp only [SS, implies_true, hu.QF]; omega
theorem O4 (hu : OU o) {r : Nat} (hr : o.v 2121 = .i r) : bn o UT := by
 simp only [UT, af, au, and_true]
 and_intros
 all_goals intro h
 all_goals simp only [SS, implies_true, hr, hu.aaU] at h ⊢
 have := ad9 (OP (l := o.v 7307) (r := r)) (n := (o.v 7307).T.length); unfold J4; omega
theorem Oe (hu : OU o) {r : Nat} (hr : o.v 2122 = .i r) (hent : (Ju.aU 0).ay o) : bn o Wb := by
 simp only [Ju, ssY, Nn, List.map, HP, Nat.reduceAdd, vj, aB, pk, List.foldr, SS, implies_true, hu.mV] at hent; have hok := al.1 hent.1; simp only [Wb, af, au, and_true]
 and_intros
 all_goals intro h
 all_goals simp only [SS, implies_true, hr] at h ⊢
 have := (cF hok (n := r) (by omega)).2.2
 omega
theorem Uw (hu : OU o) {r : Nat} (hr : o.v 2124 = .i r) (hent : (YU.aU 0).ay o) : bn o Ul := by
 simp only [YU, goT, yj, V1, aB, pk, List.foldr, SS, implies_true, hu.aeN] at hent; have hok := al.1 hent.2; simp only [Ul, af, au, and_true]
 and_intros
 all_goals intro h
 all_goals simp only [SS, implies_true, hr, hu.mV] at h ⊢
 obtain ⟨g1, g2, g3⟩ := hok _ (ef (d := o.v 7340) (n := r) (by omega))
 exact ⟨by omega, by omega, al.2 g1⟩
theorem rD (hu : OU o) : bn o Ur /\ bn o ssL /\ bn o slL /\ bn o soL /\ bn o saL := by
 simp only [Ur, ssL, slL, soL, saL, af, au, and_true]
 and_intros
 all_goals intro h
 all_goals simp only [SS, implies_true]
theorem Rj (hu : OU o) {r : Nat} (hr : o.v 2130 = .i r) (hle : (r : Int) <= ((E.uf 134 (pk [.v 7400])).den o).I) : bn o Ug := by
 simp only [pk, List.foldr, SS, implies_true, hu.Yd] at hle; have hle : r <= gN (q7 (o.v 7400)) (o.v 7400).T.length := by omega
 simp only [Ug, af, au, and_true]
 and_intros
 all_goals intro h
 all_goals simp only [SS, implies_true, hr, hu.ZY, hu.Yd, al, cD, Classical.not_not] at h ⊢
 ·exact hY (r := r) (by omega) (fun q => by unfold q7 at q; omega)
 ·exact hY (r := r) (by omega) (fun q => by unfold q7 at q; omega)
 ·have := uJ hle (by omega) (by unfold q7; omega); omega
 ·exact qw hle (by omega)
theorem WD (hu : OU o) : bn o z6L := by
 simp only [z6L, af, au, and_true]
 and_intros
 all_goals intro h
 all_goals simp only [SS, implies_true, hu.ZY, hu.Zb, al, cD, tX, ui, Classical.not_not, Hz] at h ⊢
 ·omega
 ·exact fun q => h.1 q.1
 ·exact ⟨h.1, by omega⟩
theorem Yb (hu : OU o) : bn o z5L := by
 simp only [z5L, af, au, and_true]
 and_intros
 all_goals intro h
 all_goals simp only [SS, implies_true, hu.Zb, hu.Je, al, cD, tX, ui, Classical.not_not, Jr] at h ⊢
 ·omega
 ·omega
 ·omega
 ·omega
 ·omega
 ·exact ⟨by omega, by omega, by omega, by omega, h.2.1, by omega⟩
 ·exact fun q => h.1 q.2.2.2.2.1
theorem LI (hu : OU o) {r : Nat} (hr : o.v 2131 = .i r) (hle : (r : Int) <= ((E.uf 138 (pk [.v 7420])).den o).I) : bn o K7 := by
 simp only [pk, List.foldr, SS, implies_true, hu.Xy] at hle; have hle : r <= gN (q5 (o.v 7420)) (o.v 7420).T.length := by omega
 simp only [K7, af, au, and_true]
 and_intros
 all_goals intro h
 all_goals simp only [SS, implies_true, hr, hu.Je, hu.aeL, hu.Xy, al, cD, Classical.not_not] at h ⊢
 ·have := uJ hle (by omega) h.1; omega
 ·exact hY (r := r) (by omega) h.1
 ·exact qw hle (by omega)
theorem PT (hu : OU o) : bn o V6 := by
 simp only [V6, af, au, and_true]
 and_intros
 all_goals intro h
 all_goals simp only [SS, implies_true, hu.aeL, hu.N2, al, cD, tX, ui, Classical.not_not, tG] at h ⊢
 ·omega
 ·exact fun q => h.1 q.1
 ·exact ⟨h.1, by omega⟩
theorem QN (hu : OU o) {r : Nat} (hr : o.v 2133 = .i r) (hle : (r : Int) <= ((E.uf 144 (pk [.v 7430, .v 7431])).den o).I) : bn o Uf := by
 simp only [pk, List.foldr, SS, implies_true, hu.Vw] at hle; have hle : r <= gN (qd (o.v 7430) (o.v 7431)) (o.v 7430).T.length := by omega
 simp only [Uf, af, au, and_true]
 and_intros
 all_goals intro h
 all_goals simp only [SS, implies_true, hr, hu.adY, hu.Vw, al, cD, Classical.not_not] at h ⊢
 ·exact hY (r := r) (by omega) (fun q => q h.1)
 ·have := uJ hle (by omega) h.1; omega
 ·exact qw hle (by omega)
theorem KB (hu : OU o) {r : Nat} (hr : o.v 2134 = .i r) (hent : (Iz.aU 0).ay o) (hle : (r : Int) <= ((E.uf 146 (pk [.v 7433])).den o).I) : bn o NG := by
 simp only [Iz, NV, yj, aB, pk, List.foldr, SS, implies_true, hu.Ui] at hent hle; have hle : r <= gN (qp (o.v 7433)) (o.v 7433).T.length := by omega
 simp only [NG, af, au, and_true]
 and_intros
 all_goals intro h
 all_goals simp only [SS, implies_true, hr, hu.adY, hu.aaW, hu.Ui, al, cD, Classical.not_not, List.length_take] at h ⊢
 ·refine ⟨hY (r := r) (by omega) (fun q => ?_), by omega, by omega⟩
  have q3 := q.2.2; rw [List.length_take] at q3; exact h.1 q3
 ·have := uJ hle (by omega) ⟨by omega, by omega, by rw [List.length_take]; exact h.1⟩
  exact ⟨by omega, by omega, by omega⟩
 ·exact hY (r := r) (by omega) (fun q => by have := q.2.1; omega)
 ·exact hY (r := r) (by omega) (fun q => by have := q.1; omega)
 ·exact qw hle (by omega)
theorem QX (hu : OU o) : bn o Vd := by
 simp only [Vd, af, au, and_true]
 and_intros
 all_goals intro h
 all_goals simp only [SS, implies_true, hu.aaW, hu.abW, al, cD, tX, ui, GO, Classical.not_not, u9] at h ⊢
 ·exact fun q => h q.1
 ·exact ⟨fun q => ⟨h, by omega⟩, fun q => by omega⟩
theorem Xc (hu : OU o) {r : Nat} (hr : o.v 2135 = .i r) (hle : (r : Int) <= ((E.uf 149 (pk [.v 7436])).den o).I) : bn o shL := by
 simp only [pk, List.foldr, SS, implies_true, hu.Yk] at hle; have hle : r <= gN (qs (o.v 7436)) (o.v 7436).S.size := by omega
 simp only [shL, af, au, and_true]
 and_intros
 all_goals intro h
 all_goals simp only [SS, implies_true, N9, VL, hr, hu.ZI, hu.Yk, al, cD, Classical.not_not] at h ⊢
 ·exact hY (r := r) (by omega) (fun q => q h.1)
 ·have := uJ hle (by omega) (Q := qs (o.v 7436)) h.1; omega
 ·exact qw hle (by omega)
theorem Vo (hu : OU o) (hent : Pd.aU.ay o) : bn o smL := by
 simp only [Pd, rK, ac1, vE, pk, List.foldr, Nat.reduceAdd, SS, implies_true, hu.Je, al] at hent; obtain ⟨g0, g1, g2, g3, g4, g5⟩ := hent; simp only [smL, af, au, and_true]
 and_intros
 all_goals intro h
 all_goals simp only [SS, implies_true, hu.abW, hu.ZI, hu.WI, al, cD, tX, ui, GO, ZG, Kf, Classical.not_not, small, VV] at h ⊢
 all_goals and_intros
 all_goals try omega
 all_goals first
  | exact fun q => h q.1
  | exact fun q => h.1 q.2.1
  | exact fun q => h.1 q.2.2.2.2.2.2.2.2.1
  | exact fun q => by have := q.2.2.2.2.2.2.2.2.2.1; rw [h.1] at this; cases this
  | exact ⟨fun q => ⟨h.2.2.2.2.2.2.2.2.2, h.2.2.2.2.2.2.2.2.1, by omega, by omega, by omega, by omega, by omega, by omega, h.2.1, h.1, q⟩, fun q => q.2.2.2.2.2.2.2.2.2.2⟩
theorem Lw (hu : OU o) {r : Nat} (hr : o.v 2136 = .i r) (hent : (Jb.aU 0).ay o) (hle : (r : Int) <= ((E.uf 152 (pk [.v 7450])).den o).I) : bn o Ml := by
 simp only [Jb, NV, pk, List.foldr, SS, implies_true, hu.N2, hu.Va, al] at hent hle; have hle : r <= gN (YX (o.v 7450)) (o.v 7450).T.length := by omega
 obtain ⟨f1, f2⟩ := hent; simp only [Ml, af, au, and_true]
 and_intros
 all_goals intro h
 all_goals simp only [SS, implies_true, hr, hu.Je, hu.WI, hu.abF, hu.Va, al, cD, Classical.not_not] at h ⊢
 ·have := uJ hle (by omega) h.1
  exact ⟨by omega, by omega, f1 r (by omega)⟩
 ·exact ⟨hY (r := r) (by omega) h.1, f1 r (by omega)⟩
 ·exact qw hle (by omega)
theorem Ov (hu : OU o) : bn o Ut := by
 simp only [Ut, af, au, and_true]
 and_intros
 all_goals intro h
 all_goals simp only [SS, implies_true, hu.abF, hu.abK, al, cD, tX, ui, GO, Classical.not_not, vC] at h ⊢
 ·exact fun q => h q.1
 ·exact ⟨fun q => ⟨h, by omega⟩, fun q => by omega⟩
end
def st0 : List SV := [iS (.il 0), .bool (.bl false), .bO, .bO, .str (.sl []), .bO]
def st1 : List SV := [iS (.il 1), .bool (.bl false), .bO, .bO, .str (.sl []), .bO]
end Go.Proofs.YtdlppkhmmclipaaGreat.sxObj
namespace Go.Proofs.YtdlppkhmmclipaaGreat.sxObj
open Go.Sx
set_option linter.unusedVariables false
set_option maxRecDepth 100000
end Go.Proofs.YtdlppkhmmclipaaGreat.sxObj
namespace Go.Proofs.YtdlppkhmmclipaaGreat.sxObj
open Go.Sx Go.RowKit Go.Proofs.YtdlppkhmmclipaaGreat
set_option linter.unusedVariables false
set_option linter.unusedSimpArgs false
set_option maxRecDepth 100000
theorem QM {l : Dv} {k : ByteArray} {x : Row} (h : dF l.T) (hx : jg x) : dF (ew l k x) := fun r hr => by
 unfold ew at hr; rcases List.mem_append.1 hr with h1 | h1
 ·exact h r (List.mem_of_mem_take h1)
 ·rcases List.mem_cons.1 h1 with h2 | h2
  ·rw [h2]; exact hx
  ·exact h r (List.mem_of_mem_drop h2)
theorem Dw {l : Dv} {k : ByteArray} {x : Row} : (ew l k x).length <= l.T.length + 1 := by
 unfold ew; rw [List.length_append, List.length_cons, List.length_take, List.length_drop]; split <;> omega
theorem CI {l : Dv} {k : ByteArray} : (cO l k).length <= l.T.length := by
 unfold cO; split
 ·rw [List.length_append, List.length_take, List.length_drop]; omega
 ·exact Nat.le_refl _
section
variable {l m : Dv} {now ttl : Int} {only : Dv} {all : Bool}
end
section
variable {o : Env}
end
end Go.Proofs.YtdlppkhmmclipaaGreat.sxObj
namespace Go.Proofs.YtdlppkhmmclipaaGreat.sxObj
open Go.Sx
set_option linter.unusedVariables false
end Go.Proofs.YtdlppkhmmclipaaGreat.sxObj
namespace Go.Proofs.YtdlppkhmmclipaaGreat.sxObj
open Go.Sx Go.RowKit Go.Proofs.YtdlppkhmmclipaaGreat
set_option linter.unusedVariables false
set_option linter.unusedSimpArgs false
set_option maxRecDepth 100000
theorem JN {l : Dv} (h : tG l) : dF l.T := fun r hr => by
 obtain ⟨n, hn, rfl⟩ := mem_row hr; obtain ⟨a, b, _, _, c, _⟩ := h.1 n hn; exact ⟨a, b, c.2⟩
theorem ld : dF (Dv.i 0).T := fun _ q => by cases q
structure ahI (p : Row) : Prop where
 k : jg (dG p)
 l : dF (cc p 9).T
 n : (cc p 9).T.length <= 20
 t0 : 0 <= (cc p 10).I
 t1 : (cc p 10).I <= 1099511627776
structure ahN (s : Sp) (n : Nat) : Prop where
 k : dF s.S
 l : s.S.length <= 20 * n
 t : GB (.t s.M)
 t0 : 0 <= s.now
 t1 : s.now <= 1099511627776 * n
section
variable {o : Env}
end
def di (r : Row) : Row := [cc r 0]
def GU (l : List Row) : Prop := l.Pairwise fun a b => (cc a 0).S ≠ (cc b 0).S
def tlT (ks m : Dv) : List Row := ks.T.map fun k => [cc (row m (aQ .s (cc k 0) m.T).toNat) 1]
def aax (ks m : Dv) : Prop := ∀ k ∈ ks.T, 0 <= aQ .s (cc k 0) m.T
def y8 (l : Dv) (n : Nat) : Dv := cc (row (cc (row l n) 0) 0) 3
def Vv (m : List Row) (k : Dv) : Row := row (cc (row (.t m) (aQ .s k m).toNat) 1) 0
def Sf (m : List Row) (k : Dv) : Prop := 0 <= aQ .s k m
def KX (m : List Row) (now ttl : Int) (k : Dv) : Prop := 0 < ttl /\ ((cc (Vv m k) 1).B = false \/ ttl < now - (cc (Vv m k) 2).I)
noncomputable def AP (l m : Dv) (now ttl : Int) : Nat -> List Row
 | 0 => m.T
 | n + 1 => if dec (Sf (AP l m now ttl n) (y8 l n) /\ KX (AP l m now ttl n) now ttl (y8 l n)) = true then nV .s (AP l m now ttl n) (y8 l n) else AP l m now ttl n
def agG (l m : Dv) (now ttl : Int) (j : Nat) : Prop := Sf (AP l m now ttl j) (y8 l j) /\ ¬ KX (AP l m now ttl j) now ttl (y8 l j)
noncomputable def Zk (l m : Dv) (now ttl : Int) (n : Nat) : List Nat := (List.range n).filter fun j => dec (agG l m now ttl j)
noncomputable def VB (l m : Dv) (now ttl : Int) : List Row := (Zk l m now ttl l.T.length).map fun j => [cc (Vv (AP l m now ttl j) (y8 l j)) 0]
def Rf (m : List Row) : Prop := ∀ r ∈ m, 0 <= (cc (row (cc r 1) 0) 2).I /\ (cc (row (cc r 1) 0) 2).I <= 1125899906842624
def jP (l : Dv) (n : Nat) : Row := row (cc (row l n) 0) 0
def de (l : Dv) (n : Nat) : Dv := .s (jo (cc (jP l n) 0).S (cc (jP l n) 1).S)
def S1 (any now key : Dv) : Row := [key, .t [[any, .b true, now, key]]]
def rqT (l now : Dv) : Nat -> List Row
 | 0 => []
 | n + 1 => jI .s (rqT l now n) (S1 (cc (row l n) 0) now (de l n))
def qa (l : Dv) (j : Nat) : Prop := (cc (jP l j) 6).B = false
def AD (l : Dv) : Prop := ∀ j, j < l.T.length -> Ra (cc (jP l j) 0) (cc (jP l j) 1) (cc (jP l j) 4)
def aU (M : List Row) (o : Row) : Row := S1 (.t [nine o]) (.i (atV (.t M) (kS o))) (.s (kS o))
def Vt (S M : List Row) : List Row := S.map (aU M)
noncomputable def acY (ops : Dv) : Nat -> ByteArray
 | 0 => ⟨[].toArray⟩
 | n + 1 => if (cc (row ops n) 0).I = 2 /\ (cc (row ops n) 7).B = false then (cc (row ops n) 4).S else if (cc (row ops n) 0).I = 3 /\ dec (eg (qb (cc (row ops n) 9)) (cc (row ops n) 9).T.length) = true then ⟨[].toArray⟩ else acY ops n
theorem afY {Q : Nat -> Prop} {n r : Nat} (hr : r <= gN Q n) (hl : r < n) (h : ¬ Q r) : gN Q n = r := by
 refine Nat.le_antisymm (Nat.le_of_not_lt fun cV => ?_) hr; have h2 := bI (show r < stop (fun j => !dec (Q j)) n from cV); rw [cD.2 h] at h2; cases h2
noncomputable def aei (c : Nat) (d : Dv) : Dv :=
 match c with
 | 200 => .t ((ar d 0).T.map di)
 | 201 => .b (dec (GU (ar d 0).T))
 | 202 => .t (tlT (ar d 0) (ar d 1))
 | 203 => .b (dec (aax (ar d 0) (ar d 1)))
 | 204 => .t (AP (ar d 0) (ar d 1) (ar d 2).I (ar d 3).I (ar d 4).I.toNat)
 | 205 => .t (VB (ar d 0) (ar d 1) (ar d 2).I (ar d 3).I)
 | 206 => .i ((Zk (ar d 0) (ar d 1) (ar d 2).I (ar d 3).I (ar d 4).I.toNat).length : Nat)
 | 207 => .t (AP (ar d 0) (ar d 1) (ar d 2).I (ar d 3).I (ar d 0).T.length)
 | 208 => .b (dec (Rf (ar d 0).T))
 | 210 => .t (rqT (ar d 0) (ar d 1) (ar d 2).I.toNat)
 | 211 => .b (dec (¬ eg (qa (ar d 0)) (ar d 0).T.length))
 | 212 => .i (gN (qa (ar d 0)) (ar d 0).T.length : Nat)
 | 213 => .b (dec (AD (ar d 0)))
 | 214 => .t (rqT (ar d 0) (ar d 1) (ar d 0).T.length)
 | 215 => .t (Vt (Fa (ar d 0) (ar d 1).I (ar d 2).I.toNat).S (Fa (ar d 0) (ar d 1).I (ar d 2).I.toNat).M)
 | 216 => .s (acY (ar d 0) (ar d 2).I.toNat)
 | _ => .i 0
def OV (o : Env) : Prop := ∀ c d, 200 <= c -> c < 260 -> o.uf c d = aei c d
theorem OV.aA {o o' : Env} (h : OV o) (e : o'.uf = o.uf) : OV o' := fun c d h1 h2 => by rw [e]; exact h c d h1 h2
section
variable {o : Env} (h : OV o) (d : Dv)
include h
theorem OV.Of : o.uf 211 d = .b (dec (¬ eg (qa (ar d 0)) (ar d 0).T.length)) := h 211 d (by decide) (by decide)
theorem OV.IQ : o.uf 212 d = .i (gN (qa (ar d 0)) (ar d 0).T.length : Nat) := h 212 d (by decide) (by decide)
theorem OV.Pv : o.uf 213 d = .b (dec (AD (ar d 0))) := h 213 d (by decide) (by decide)
theorem OV.OY : o.uf 200 d = .t ((ar d 0).T.map di) := h 200 d (by decide) (by decide)
theorem OV.Kc : o.uf 201 d = .b (dec (GU (ar d 0).T)) := h 201 d (by decide) (by decide)
end
theorem nf (r : Row) : r.headD (.i 0) = cc r 0 := by cases r <;> rfl
theorem keys_perm {l : List Row} {vis : List Dv} (ha : GU l) (hv : vis.Pairwise fun a b => KK.str.dv a ≠ KK.str.dv b) (h1 : ∀ k ∈ vis, ∃ r ∈ l, r.headD (.i 0) = k) (h2 : ∀ r ∈ l, ∃ k ∈ vis, KK.str.dv k = KK.str.dv (r.headD (.i 0))) :
    (vis.map fun k => [k]).Perm (l.map di) := by
 have e : l.map di = (l.map fun r => r.headD (.i 0)).map fun k => [k] := by
  rw [List.map_map]; exact List.map_congr_left fun r _ => by show [cc r 0] = [r.headD (.i 0)]; rw [nf]
 rw [e]; refine List.Perm.map _ ((List.perm_ext_iff_of_nodup ?_ ?_).2 fun k => ⟨fun hk => ?_, fun hk => ?_⟩)
 ·exact hv.imp fun hne he => hne (by rw [he])
 ·refine List.pairwise_map.2 (ha.imp fun {a b} hne he => hne ?_); rw [nf, nf] at he; rw [he]
 ·obtain ⟨r, hr, rfl⟩ := h1 k hk; exact List.mem_map.2 ⟨r, hr, rfl⟩
 ·obtain ⟨r, hr, rfl⟩ := List.mem_map.1 hk; obtain ⟨k', hk', he⟩ := h2 r hr; obtain ⟨r', hr', rfl⟩ := h1 k' hk'
  have hs : (cc r' 0).S = (cc r 0).S := by
   rw [nf, nf] at he; have he : Value.string (cc r' 0).S = Value.string (cc r 0).S := he; injection he
  by_cases hrr : r' = r
  ·rw [<- hrr]; exact hk'
  ·exfalso; obtain ⟨i, hi, e1⟩ := List.mem_iff_getElem.1 hr; obtain ⟨j, hj, e2⟩ := List.mem_iff_getElem.1 hr'; rcases Nat.lt_trichotomy i j with hij | hij | hij
   ·have := List.pairwise_iff_getElem.1 ha i j hi hj hij; rw [e1, e2] at this; exact this hs.symm
   ·subst hij; exact hrr (e2.symm.trans e1)
   ·have := List.pairwise_iff_getElem.1 ha j i hj hi hij; rw [e1, e2] at this; exact this hs
theorem Ls {l : List Row} {vis : List Dv} (hv : vis.Pairwise fun a b => KK.str.dv a ≠ KK.str.dv b) (h1 : ∀ k ∈ vis, ∃ r ∈ l, r.headD (.i 0) = k) : vis.length <= l.length := by
 induction l generalizing vis with
 | nil =>
   cases vis with
   | nil => exact Nat.le_refl _
   | cons k _ => obtain ⟨r, hr, _⟩ := h1 k (List.mem_cons_self ..); cases hr
 | cons x l ih =>
   have h3 : ∀ v : List Dv, (v.Pairwise fun a b => KK.str.dv a ≠ KK.str.dv b) -> v.length <= (v.filter fun k => dec (k ≠ x.headD (.i 0))).length + 1 := fun v hv => by
    induction v with
    | nil => exact Nat.zero_le _
    | cons a v ihv =>
      rw [List.pairwise_cons] at hv
      by_cases ha : a = x.headD (.i 0)
      ·have : v.filter (fun k => dec (k ≠ x.headD (.i 0))) = v := List.filter_eq_self.2 fun b hb => al.2 fun e => hv.1 b hb (by rw [ha, e])
       rw [List.filter_cons, this, if_neg (by rw [al]; exact fun q => q ha)]
       exact Nat.le_refl _
      ·rw [List.filter_cons, if_pos (al.2 ha)]; exact Nat.succ_le_succ (ihv hv.2)
   have h4 := ih (vis := vis.filter fun k => dec (k ≠ x.headD (.i 0))) (hv.filter _) (fun k hk => by
    obtain ⟨hk, hne⟩ := List.mem_filter.1 hk; obtain ⟨r, hr, e⟩ := h1 k hk; rcases List.mem_cons.1 hr with rfl | hr
    ·exact absurd e.symm (al.1 hne)
    ·exact ⟨r, hr, e⟩)
   have := h3 vis hv; rw [List.length_cons]; omega
def ky (r : Row) : List UInt8 := (r.headD (.i 0)).S.toList
def o5 (l : List Row) : Prop := l.Pairwise fun a b => ky a ≠ ky b
theorem kq {r : Row} {k : Dv} : KQ.s.eq (r.headD (.i 0)) k = true ↔ ky r = k.S.toList := by
 unfold KQ.eq ky; exact beq_iff_eq
theorem mK {k : Dv} : ∀ {l : List Row} {i : Nat}, dQ .s k l = some i -> ∃ h : i < l.length, ky l[i] = k.S.toList
 | r :: l, i, h => by
   unfold dQ at h; cases hq : KQ.s.eq (r.headD (.i 0)) k with
   | true => rw [hq] at h; cases h; exact ⟨Nat.succ_pos _, kq.1 hq⟩
   | false =>
     rw [hq] at h; simp only [cond_false, Option.map_eq_some_iff] at h; obtain ⟨j, hj, rfl⟩ := h; obtain ⟨h1, h2⟩ := mK hj; exact ⟨Nat.succ_lt_succ h1, h2⟩
theorem mI {k : Dv} : ∀ {l : List Row}, dQ .s k l = none -> ∀ r ∈ l, ky r ≠ k.S.toList
 | r :: l, h, x, hx => by
   unfold dQ at h; cases hq : KQ.s.eq (r.headD (.i 0)) k with
   | true => rw [hq] at h; cases h
   | false =>
     rw [hq] at h; simp only [cond_false, Option.map_eq_none_iff] at h; rcases List.mem_cons.1 hx with rfl | hx
     ·exact fun e => by rw [kq.2 e] at hq; cases hq
     ·exact mI h x hx
theorem sA {l : List Row} (h : o5 l) {i j : Nat} (hi : i < l.length) (hj : j < l.length) (e : ky l[i] = ky l[j]) : i = j := by
 rcases Nat.lt_trichotomy i j with hl | hl | hl
 ·exact absurd e (List.pairwise_iff_getElem.1 h i j hi hj hl)
 ·exact hl
 ·exact absurd e.symm (List.pairwise_iff_getElem.1 h j i hj hi hl)
theorem BP {l : List Row} (h : o5 l) {x r : Row} : r ∈ jI .s l x ↔ r = x \/ r ∈ l /\ ky r ≠ ky x := by
 unfold jI; cases hf : dQ .s (x.headD (.i 0)) l with
 | none =>
   have hn := mI hf; simp only [List.mem_append, List.mem_singleton]; exact ⟨fun q => q.elim (fun q => .inr ⟨q, hn r q⟩) .inl, fun q => q.elim .inr fun q => .inl q.1⟩
 | some i =>
   obtain ⟨hi, he⟩ := mK hf; simp only [List.mem_iff_getElem, List.length_set]; constructor
   ·rintro ⟨j, hj, rfl⟩; rw [List.getElem_set]; split
    ·exact .inl rfl
    ·rename_i hne; exact .inr ⟨⟨j, hj, rfl⟩, fun e => hne (sA h hi hj (he.trans e.symm))⟩
   ·rintro (rfl | ⟨⟨j, hj, rfl⟩, hne⟩)
    ·exact ⟨i, hi, by rw [List.getElem_set_self]⟩
    ·refine ⟨j, hj, ?_⟩; rw [List.getElem_set_ne]; intro e; subst e; exact hne he
theorem wm {l : List Row} (h : o5 l) {x : Row} : o5 (jI .s l x) := by
 unfold jI; cases hf : dQ .s (x.headD (.i 0)) l with
 | none =>
   refine List.pairwise_append.2 ⟨h, List.pairwise_singleton _ _, fun a ha b hb => ?_⟩; rw [List.mem_singleton.1 hb]; exact mI hf a ha
 | some i =>
   obtain ⟨hi, he⟩ := mK hf; refine List.pairwise_iff_getElem.2 fun a b ha hb hab => ?_; rw [List.length_set] at ha hb; rw [List.getElem_set, List.getElem_set]; split
   ·split
    ·omega
    ·rename_i e hne; exact fun q => hne (sA h hi hb (he.trans q))
   ·split
    ·rename_i hne e; exact fun q => hne (sA h hi ha (he.trans q.symm))
    ·exact List.pairwise_iff_getElem.1 h a b ha hb hab
theorem Ho {l : List Row} (h : o5 l) {k : Dv} {r : Row} : r ∈ nV .s l k ↔ r ∈ l /\ ky r ≠ k.S.toList := by
 unfold nV; cases hf : dQ .s k l with
 | none => exact ⟨fun q => ⟨q, mI hf r q⟩, fun q => q.1⟩
 | some i =>
   obtain ⟨hi, he⟩ := mK hf; simp only [List.mem_eraseIdx_iff_getElem]; constructor
   ·rintro ⟨j, hj, hne, rfl⟩; exact ⟨List.getElem_mem _, fun e => hne (sA h hj hi (e.trans he.symm))⟩
   ·rintro ⟨hm, hne⟩; obtain ⟨j, hj, rfl⟩ := List.mem_iff_getElem.1 hm; exact ⟨j, hj, fun e => by subst e; exact hne he, rfl⟩
theorem DU {l : List Row} (h : o5 l) {k : Dv} : o5 (nV .s l k) := by
 unfold nV; split
 ·exact h.sublist (List.eraseIdx_sublist ..)
 ·exact h
theorem ee {l : List Row} {k : Dv} : 0 <= aQ .s k l ↔ ∃ r ∈ l, ky r = k.S.toList := by
 unfold aQ; cases hf : dQ .s k l with
 | none => exact ⟨fun q => absurd q (by decide), fun ⟨r, hr, e⟩ => absurd e (mI hf r hr)⟩
 | some i =>
   obtain ⟨hi, he⟩ := mK hf; exact ⟨fun _ => ⟨_, List.getElem_mem hi, he⟩, fun _ => Int.natCast_nonneg i⟩
theorem X4 {l : List Row} (h : o5 l) {k : Dv} {r : Row} (hr : r ∈ l) (e : ky r = k.S.toList) : row (.t l) (aQ .s k l).toNat = r := by
 unfold aQ; cases hf : dQ .s k l with
 | none => exact absurd e (mI hf r hr)
 | some i =>
   obtain ⟨hi, he⟩ := mK hf; obtain ⟨j, hj, rfl⟩ := List.mem_iff_getElem.1 hr; have := sA h hj hi (e.trans he.symm); subst this; unfold row; show (l[j]?).getD [] = _; rw [List.getElem?_eq_getElem hj]; rfl
theorem J7 : o5 [] := List.Pairwise.nil
theorem bt {l : List Row} (h : o5 l) : GU l := h.imp fun {a b} hne he => hne (by
 unfold ky; rw [nf, nf, he])
theorem Y0 (a b : List UInt8) : a < b \/ a = b \/ b < a := by
 by_cases h : a < b
 ·exact .inl h
 by_cases h2 : b < a
 ·exact .inr (.inr h2)
 exact .inr (.inl (List.le_antisymm (List.not_lt.1 h2) (List.not_lt.1 h)))
def K4 (l : List Row) : Prop := l.Pairwise fun a b => kl a < kl b
theorem Xx {l : List Row} (h : K4 l) {i j : Nat} (hi : i < l.length) (hj : j < l.length) (e : kl l[i] = kl l[j]) : i = j := by
 rcases Nat.lt_trichotomy i j with hl | hl | hl
 ·have := List.pairwise_iff_getElem.1 h i j hi hj hl; rw [e] at this; exact absurd this (List.lt_irrefl _)
 ·exact hl
 ·have := List.pairwise_iff_getElem.1 h j i hj hi hl; rw [e] at this; exact absurd this (List.lt_irrefl _)
theorem nB {l : List Row} {k : ByteArray} {r : Row} (hr : r ∈ l.take (iL (.t l) k)) : kl r < k.toList := by
 obtain ⟨i, hi, rfl⟩ := List.mem_iff_getElem.1 hr; rw [List.length_take] at hi; have hb : J5 (.t l) k i = false := bI (show i < stop (J5 (.t l) k) l.length from by unfold iL at hi; simp only [Tx] at hi; omega)
 unfold J5 at hb; have e : row (.t l) i = l[i]'(by omega) := ic (l := .t l) (show i < l.length by omega)
 rw [e, uj] at hb; rw [List.getElem_take]; simpa [kl] using hb
theorem QC {l : List Row} {k : ByteArray} (h : iL (.t l) k < l.length) : ¬ kl (l[iL (.t l) k]'h) < k.toList := by
 have hb : J5 (.t l) k (iL (.t l) k) = true := nb (show stop (J5 (.t l) k) l.length < l.length from h); unfold J5 at hb; have e : row (.t l) (iL (.t l) k) = l[iL (.t l) k]'h := ic (l := .t l) h; rw [e, uj] at hb; simpa [kl] using hb
theorem mu {l : List Row} {k : ByteArray} (h : gZ (.t l) k = true) : ∃ hl : iL (.t l) k < l.length, kl (l[iL (.t l) k]'hl) = k.toList := by
 have hl : iL (.t l) k < l.length := Aw h; rw [vi (l := .t l) hl] at h; have e : row (.t l) (iL (.t l) k) = l[iL (.t l) k]'hl := ic (l := .t l) hl; rw [e] at h; exact ⟨hl, by simpa [kl] using h⟩
theorem Yr {l : List Row} {k : ByteArray} (h : ¬ gZ (.t l) k = true) (hl : iL (.t l) k < l.length) : k.toList < kl (l[iL (.t l) k]'hl) := by
 rw [vi (l := .t l) hl] at h; have e : row (.t l) (iL (.t l) k) = l[iL (.t l) k]'hl := ic (l := .t l) hl; rw [e] at h; rcases Y0 (kl (l[iL (.t l) k]'hl)) k.toList with q | q | q
 ·exact absurd q (QC hl)
 ·exact absurd q (by simpa [kl] using h)
 ·exact q
def J3 (l : List Row) (k : ByteArray) : Nat := if gZ (.t l) k = true then iL (.t l) k + 1 else iL (.t l) k
theorem kc {l : List Row} (h : K4 l) {k : ByteArray} {r : Row} (hr : r ∈ l.drop (J3 l k)) : k.toList < kl r := by
 obtain ⟨i, hi, rfl⟩ := List.mem_iff_getElem.1 hr; rw [List.length_drop] at hi; rw [List.getElem_drop]; unfold J3 at hi ⊢
 by_cases hq : gZ (.t l) k = true
 ·obtain ⟨hl, e⟩ := mu hq; simp only [hq, if_true] at hi ⊢; rw [<- e]; exact List.pairwise_iff_getElem.1 h _ _ hl (by omega) (by omega)
 ·rw [Bool.not_eq_true] at hq; simp only [hq, Bool.false_eq_true, if_false] at hi ⊢; have cV := Yr (l := l) (k := k) (by rw [hq]; simp) (by omega)
  rcases Nat.eq_zero_or_pos i with rfl | hp
  ·exact cV
  ·exact List.lt_trans cV (List.pairwise_iff_getElem.1 h _ _ (by omega) (by omega) (by omega))
theorem rN {l : List Row} {k : ByteArray} (r : Row) : r ∈ l -> r ∈ l.take (iL (.t l) k) \/ kl r = k.toList \/ r ∈ l.drop (J3 l k) := fun hr => by
 obtain ⟨i, hi, rfl⟩ := List.mem_iff_getElem.1 hr
 by_cases h1 : i < iL (.t l) k
 ·exact .inl (List.mem_take_iff_getElem.2 ⟨i, by omega, rfl⟩)
 ·by_cases h2 : i < J3 l k
  ·refine .inr (.inl ?_); unfold J3 at h2; split at h2
   ·rename_i hq; obtain ⟨hl, e⟩ := mu hq; have : i = iL (.t l) k := by omega
    subst this; exact e
   ·omega
  ·exact .inr (.inr (List.mem_drop_iff_getElem.2 ⟨i - J3 l k, by omega, by congr 1; omega⟩))
theorem lM {a b : List UInt8} (h : a < b) : a ≠ b := fun e => by rw [e] at h; exact List.lt_irrefl _ h
theorem mq {l : List Row} (h : K4 l) {k : ByteArray} {x r : Row} : r ∈ ew (.t l) k x ↔ r = x \/ r ∈ l /\ kl r ≠ k.toList := by
 unfold ew; rw [List.mem_append, List.mem_cons]; constructor
 ·rintro (q | q | q)
  ·exact .inr ⟨List.mem_of_mem_take q, lM (nB q)⟩
  ·exact .inl q
  ·exact .inr ⟨List.mem_of_mem_drop q, (lM (kc h q)).symm⟩
 ·rintro (q | ⟨q, hne⟩)
  ·exact .inr (.inl q)
  ·rcases rN (k := k) r q with q | q | q
   ·exact .inl q
   ·exact absurd q hne
   ·exact .inr (.inr q)
theorem xi {l : List Row} {k : ByteArray} : cO (.t l) k = l.take (iL (.t l) k) ++ l.drop (J3 l k) := by
 unfold cO J3; split
 ·rfl
 ·exact (List.take_append_drop _ _).symm
theorem jl {l : List Row} (h : K4 l) {k : ByteArray} {r : Row} : r ∈ cO (.t l) k ↔ r ∈ l /\ kl r ≠ k.toList := by
 rw [xi, List.mem_append]; constructor
 ·rintro (q | q)
  ·exact ⟨List.mem_of_mem_take q, lM (nB q)⟩
  ·exact ⟨List.mem_of_mem_drop q, (lM (kc h q)).symm⟩
 ·rintro ⟨q, hne⟩; rcases rN (k := k) r q with q | q | q
  ·exact .inl q
  ·exact absurd q hne
  ·exact .inr q
theorem KY {l : List Row} (h : K4 l) {k : ByteArray} {x : Row} (hx : kl x = k.toList) : K4 (ew (.t l) k x) := by
 unfold ew; refine List.pairwise_append.2 ⟨h.sublist (List.take_sublist ..), List.pairwise_cons.2 ⟨fun r hr => ?_, h.sublist (List.drop_sublist ..)⟩, fun a ha b hb => ?_⟩
 ·rw [hx]; exact kc h hr
 ·rcases List.mem_cons.1 hb with rfl | hb
  ·rw [hx]; exact nB ha
  ·exact List.lt_trans (nB ha) (kc h hb)
theorem Cz {l : List Row} (h : K4 l) {k : ByteArray} : K4 (cO (.t l) k) := by
 rw [xi]; exact List.pairwise_append.2 ⟨h.sublist (List.take_sublist ..), h.sublist (List.drop_sublist ..), fun a ha b hb => List.lt_trans (nB ha) (kc h hb)⟩
def ag2 : aJ := .cons aC (.cons .bool (.cons (.int .i64) (.cons .str .nil)))
def itC : DK := .ei 261 (.fp ag2)
end Go.Proofs.YtdlppkhmmclipaaGreat.sxObj
namespace Go.Proofs.YtdlppkhmmclipaaGreat.sxObj
open Go.Sx
set_option linter.unusedVariables false
set_option maxRecDepth 100000
abbrev ov0 : E := .il 0
abbrev ov1 : E := .o2 (.mf .s) (.v 7561) (eC 0 (.v 7560) (.v 2155))
abbrev ov2 : E := .o2 .lt (.v 2155) (.o1 .ab (.v 7560))
abbrev ov3 : E := .uf 202 (eP (.v 7560) (eP (.v 7561) ov0))
def tlL : List (aa × List Ob) :=
 [(fT (.o2 .le ov0 ov1) (fT ov2 []), oT (eC 1 (.v 7561) ov1) (eC 0 ov3 (.v 2155)) []),
  (fF (.o2 .le ov0 ov1) (fT ov2 []), oO (.bl false) []),
  (fF ov2 [], oO (.o2 .le (.v 2155) (.o1 .ab ov3)) (oT (.o2 .cJ ov3 (.v 2155)) ov3 []))]
end Go.Proofs.YtdlppkhmmclipaaGreat.sxObj
namespace Go.Proofs.YtdlppkhmmclipaaGreat.sxObj
open Go.Sx Go.RowKit Go.Proofs.YtdlppkhmmclipaaGreat
set_option linter.unusedVariables false
set_option linter.unusedSimpArgs false
set_option maxRecDepth 100000
theorem Lj {l : Dv} {f : Row -> Row} {n : Nat} (h : n < l.T.length) : row (.t (l.T.map f)) n = f (row l n) := by rw [iB h]; rfl
section
variable {l m : Dv} {now ttl : Int}
end
section
variable {o : Env}
end
structure Good (S : List Row) : Prop where
 i : K4 S
 g : ∀ r ∈ S, bad r = false
 e : ∀ r ∈ S, eight r = r
theorem Good.agN {S : List Row} (h : Good S) : pd S := ⟨h.i, h.g⟩
theorem Ll : Good [] := ⟨List.Pairwise.nil, (fun _ q => by cases q), (fun _ q => by cases q)⟩
theorem Iq {S : List Row} (h : Good S) {k : ByteArray} {x : Row} (hx : kl x = k.toList) (hb : bad x = false) (he : eight x = x) : Good (ew (.t S) k x) :=
 ⟨KY h.i hx, fun r hr => by
  rcases (mq h.i).1 hr with rfl | hr
  ·exact hb
  ·exact h.g r hr.1, fun r hr => by
  rcases (mq h.i).1 hr with rfl | hr
  ·exact he
  ·exact h.e r hr.1⟩
theorem AU {S : List Row} (h : Good S) {k : ByteArray} : Good (cO (.t S) k) :=
 ⟨Cz h.i, fun r hr => h.g r ((jl h.i).1 hr).1, fun r hr => h.e r ((jl h.i).1 hr).1⟩
theorem Hv {S : List Row} (h : K4 S) {n : Nat} (hn : n < S.length) {r : Row} (hr : r ∈ S) (e : kl r = kl (row (.t S) n)) : r = row (.t S) n := by
 obtain ⟨i, hi, rfl⟩ := List.mem_iff_getElem.1 hr; rw [ic (l := .t S) hn] at e ⊢; have := Xx h hi hn e; subst this; rfl
end Go.Proofs.YtdlppkhmmclipaaGreat.sxObj
namespace Go.Sx
set_option linter.unusedVariables false
section
variable {α : Type} {lt : α -> α -> Bool}
def par (k : Nat) : Nat := (k - 1) / 2
def swp (H : Nat -> α) (i j : Nat) : Nat -> α := fun k => if k = i then H j else if k = j then H i else H k
structure EC (lt : α -> α -> Bool) : Prop where
 asym : ∀ a b, lt a b = true -> lt b a = false
 tr : ∀ a b c, lt b a = false -> lt c b = false -> lt c a = false
def iQ (lt : α -> α -> Bool) (H : Nat -> α) (n : Nat) : Prop := ∀ k, 0 < k -> k < n -> lt (H k) (H (par k)) = false
theorem vK {H : Nat -> α} {i j : Nat} : swp H i j i = H j := if_pos rfl
theorem tT {H : Nat -> α} {i j : Nat} : swp H i j j = H i := by
 unfold swp; split
 ·rename_i e; rw [e]
 ·exact if_pos rfl
theorem ot {H : Nat -> α} {i j k : Nat} (h1 : k ≠ i) (h2 : k ≠ j) : swp H i j k = H k := by
 unfold swp; rw [if_neg h1, if_neg h2]
theorem Zr (w : EC lt) (a : α) : lt a a = false := by
 cases h : lt a a with
 | false => rfl
 | true => rw [w.asym a a h] at h; cases h
structure ru (lt : α -> α -> Bool) (H : Nat -> α) (n j : Nat) : Prop where
 a : ∀ k, 0 < k -> k < n -> k ≠ j -> lt (H k) (H (par k)) = false
 b : 0 < j -> ∀ c, 0 < c -> c < n -> par c = j -> lt (H c) (H (par j)) = false
theorem P5 (w : EC lt) {H : Nat -> α} {n j : Nat} (h : ru lt H n j) (h0 : 0 < j) (hj : j < n) (hl : lt (H j) (H (par j)) = true) : ru lt (swp H (par j) j) n (par j) := by
 have hp : par j < j := by unfold par; omega
 constructor
 ·intro k k0 kn ki
  by_cases hk : k = j
  ·subst hk; rw [tT, vK]; exact w.asym _ _ hl
  ·rw [ot ki hk]
   by_cases h1 : par k = par j
   ·rw [h1, vK]; have hk := h.a k k0 kn hk; rw [h1] at hk; exact w.tr _ _ _ (w.asym _ _ hl) hk
   ·by_cases h2 : par k = j
    ·rw [h2, tT]; exact h.b h0 k k0 kn h2
    ·rw [ot h1 h2]; exact h.a k k0 kn hk
 ·intro hi c c0 cn hc; have hpp : par (par j) < par j := by unfold par at hi ⊢; omega
  have hg : swp H (par j) j (par (par j)) = H (par (par j)) := ot (by omega) (by omega)
  rw [hg]
  by_cases hk : c = j
  ·rw [hk, tT]; exact h.a (par j) hi (by omega) (by omega)
  ·have hci : c ≠ par j := fun e => by rw [<- e] at hc; unfold par at hc; omega
   rw [ot hci hk]; exact w.tr _ _ _ (h.a (par j) hi (by omega) (by omega)) (by have := h.a c c0 cn hk; rwa [hc] at this)
theorem As {H : Nat -> α} {n j : Nat} (h : ru lt H n j) (hs : j = 0 \/ lt (H j) (H (par j)) = false) : iQ lt H n := fun k k0 kn => by
 by_cases hk : k = j
 ·subst hk; rcases hs with q | q
  ·omega
  ·exact q
 ·exact h.a k k0 kn hk
theorem Xq {H : Nat -> α} {n : Nat} (h : iQ lt H n) : ru lt H (n + 1) n := by
 refine ⟨fun k k0 kn hk => h k k0 (by omega), fun h0 c c0 cn hc => ?_⟩
 have : c < n + 1 := cn; unfold par at hc; omega
structure cz (lt : α -> α -> Bool) (H : Nat -> α) (n i : Nat) : Prop where
 a : ∀ k, 0 < k -> k < n -> k ≠ i -> par k ≠ i -> lt (H k) (H (par k)) = false
 b : 0 < i -> ∀ c, 0 < c -> c < n -> par c = i -> lt (H c) (H (par i)) = false
def Fit (lt : α -> α -> Bool) (H : Nat -> α) (i : Nat) : Prop := 0 < i -> lt (H i) (H (par i)) = false
theorem Ir (w : EC lt) {H : Nat -> α} {n i j : Nat} (h : cz lt H n i) (hp : par j = i) (hj : j < n) (h0 : 0 < j) (hl : lt (H j) (H i) = true) (hm : ∀ c, 0 < c -> c < n -> par c = i -> lt (H c) (H j) = false) :
    cz lt (swp H i j) n j /\ Fit lt (swp H i j) j := by
 have hij : i < j := by rw [<- hp]; unfold par; omega
 refine ⟨⟨fun k k0 kn kj pk => ?_, fun _ c c0 cn hc => ?_⟩, fun _ => ?_⟩
 ·by_cases h1 : par k = i
  ·rw [h1, vK, ot (by rw [<- h1]; unfold par; omega) kj]
   exact hm k k0 kn h1
  ·by_cases h2 : k = i
   ·subst h2; rw [vK, ot (by unfold par; omega) pk]
    exact h.b k0 j h0 hj hp
   ·rw [ot h2 kj, ot h1 pk]; exact h.a k k0 kn h2 h1
 ·have hcj : j < c := by rw [<- hc]; unfold par; omega
  rw [hp, vK, ot (by omega) (by omega)]
  have := h.a c c0 cn (by omega) (by omega)
  rwa [hc] at this
 ·rw [hp, vK, tT]; exact w.asym _ _ hl
theorem down_up {H : Nat -> α} {n i : Nat} (h : cz lt H n i) (hs : ∀ c, 0 < c -> c < n -> par c = i -> lt (H c) (H i) = false) : ru lt H n i := by
 refine ⟨fun k k0 kn hk => ?_, h.b⟩
 by_cases h1 : par k = i
 ·rw [h1]; exact hs k k0 kn h1
 ·exact h.a k k0 kn hk h1
theorem kids {c i : Nat} (h0 : 0 < c) : par c = i ↔ c = 2 * i + 1 \/ c = 2 * i + 2 := by unfold par; omega
theorem Bm {H H' : Nat -> α} {n i : Nat} (w : EC lt) (h : iQ lt H n) (he : ∀ k, k ≠ i -> H' k = H k) (hi : i < n) : cz lt H' n i := by
 refine ⟨fun k k0 kn hk pk => ?_, fun h0 c c0 cn hc => ?_⟩
 ·rw [he k hk, he _ pk]; exact h k k0 kn
 ·have hci : c ≠ i := by rw [<- hc]; unfold par; omega
  have hpi : par i ≠ i := by unfold par; omega
  rw [he c hci, he _ hpi]; exact w.tr _ _ _ (h i h0 hi) (by have := h c c0 cn; rwa [hc] at this)
theorem dB {H : Nat -> α} {n i : Nat} (w : EC lt) (h : iQ lt H (n + 1)) (hi : i < n) : cz lt (swp H i n) n i := by
 have h2 : iQ lt H n := fun k k0 kn => h k k0 (by omega)
 have := Bm (H' := fun k => if k = i then H n else H k) w h2 (fun k hk => if_neg hk) hi
 have e : ∀ k, k < n -> swp H i n k = (if k = i then H n else H k) := fun k hk => by
  unfold swp; split
  ·rfl
  ·rw [if_neg (by omega)]
 refine ⟨fun k k0 kn hk pk => ?_, fun h0 c c0 cn hc => ?_⟩
 ·rw [e k kn, e _ (by unfold par; omega)]; exact this.a k k0 kn hk pk
 ·rw [e c cn, e _ (by unfold par; omega)]; exact this.b h0 c c0 cn hc
theorem root {H : Nat -> α} {n : Nat} (w : EC lt) (h : iQ lt H n) : ∀ k, k < n -> lt (H k) (H 0) = false := by
 intro k
 induction k using Nat.strongRecOn with
 | ind k ih =>
   intro hk; rcases Nat.eq_zero_or_pos k with q | q
   ·subst q; exact Zr w _
   ·have hp : par k < k := by unfold par; omega
    exact w.tr _ _ _ (ih _ hp (by omega)) (h k q hk)
end
end Go.Sx
namespace Go.Proofs.YtdlppkhmmclipaaGreat.sxObj
open Go.Sx Go.RowKit Go.Proofs.YtdlppkhmmclipaaGreat
set_option linter.unusedVariables false
def ur : Nat := 28
def fUp : Nat := 94
def Gs : Nat := 93
def tHD : Nat := 106
def SJ : Nat := 177
def lsE (a b : Nat -> E) : E := .uf 280 (pk [a 5, s4 a, b 5, s4 b])
def w9 : cA where
 f := ur
 args := [PI 7700 7701, PI 7702 7703]
 params := [7700, 7701, 7702, 7703]
 aU := [(FR (cE (.v 7700) (.v 7701)), true), (FR (cE (.v 7702) (.v 7703)), true), (cE (.v 7700) (.v 7701) 6, false), (cE (.v 7702) (.v 7703) 6, false)]
 app := fun _ => true
 bp := [(.bl true, 0)]
 kind := fun _ => some 0
 out := fun _ => .bool (lsE (cE (.v 7700) (.v 7701)) (cE (.v 7702) (.v 7703)))
 X := (⟨[(im, ja.aS), (tz, qK.aS)], []⟩ : gX).x
 fuel := 400; np := 80
def Og : aJ := .cons aC (.cons (.int .i64) .nil)
def itH (e : E) (it : Option Nat := none) : aD := .lj .str false (.cons (.ap SJ) .nil) e it
def hdH (B len I A : E) : aR := [(500177, .ar SJ Og A), (8, .row rG 1 (aB B) (b8 gF B 0) []), (3, itH I), (1, .cells tHD [.map 3, .sl 8 1 (.il 0) len, .fn (.func ua) [] [], .fn (.func ur) [] []])]
def QP : List E := [.v 7710, .v 7711, .v 7712, .v 7713]
def upR (r : E) : E := pk (QP ++ [r])
def Nl : aa := [(.uf 287 (pk [.v 7710, .v 7711, .v 7712, .v 7714]), true), cP (.il 0) (.v 7713), r9 (.v 7713) (.v 7714), cP (.v 7714) (.il 1000000), cP (aB (.v 7710)) (.il 1000000), cP (aB (.v 7712)) (.il 1000000)]
def YV : ak where
 f := fUp; key := 0; N := 23; r := 2200; base := 180000
 js := [4] ++ ke 5 23
 hd := fun _ => ⟨[(0, .ei 103 (.ptr 1 (.c 0))), (1, iS (.uf 283 (upR (.v 2200))))], hdH (.uf 281 (upR (.v 2200))) (.v 7714) (.v 7711) (.uf 282 (upR (.v 2200))), 20,
  cP (.il 0) (.v 2200) :: cP (.v 2200) (.uf 284 (pk QP)) :: Nl⟩
 aU := fun _ => Nl
 app := fun _ => true
 mS := fun m => Nat.beq m 0
 dD := fun _ => .ret 0
 ll := fun m => Nat.beq m 0
 mf := fun _ => []
 hx := fun _ => ⟨[(0, .ei 103 (.ptr 1 (.c 0))), (1, .top)], hdH (.uf 285 (pk QP)) (.v 7714) (.v 7711) (.uf 286 (pk QP)), 20, []⟩
 sQ := fun _ _ => .ret 0
 nU := fun _ => .exit 0
 bp := [(.bl true, 0)]
 fixed := [1, 3, 8]
 lt := .o2 .lt (.v 2200) (.uf 284 (pk QP))
 X := (⟨[(ur, w9.aS)], []⟩ : gX).x.xe
 fuel := 800; np := 160
 params := [7710, 7711, 7712, 7713, 7714]
 xR := [(rG, gF)]
 pins := fun sl => match nth sl 1 with | some (.int _ e) => [(7713, e)] | _ => []
 PF := [(7710, 0, 0, [1]), (7712, 0, 500177, [])]
def NW : List E := [.v 7720, .v 7721, .v 7722, .v 7723, .v 7724]
def dnR (r : E) : E := pk (NW ++ [r])
def Nb : aa := [(.uf 287 (pk [.v 7720, .v 7721, .v 7722, .v 7725]), true), cP (.il 0) (.v 7723), cP (.v 7723) (.il 1000000), cP (.il 0) (.v 7724), cP (.v 7724) (.v 7725), cP (.v 7725) (.il 1000000), cP (aB (.v 7720)) (.il 1000000), cP (aB (.v 7722)) (.il 1000000)]
def YY : ak where
 f := Gs; key := 2; N := 48; r := 2201; base := 181000
 js := [8, 9, 10] ++ ke 12 45
 hd := fun _ => ⟨[(0, .ei 103 (.ptr 1 (.c 0))), (1, iS (.v 7723)), (2, iS (.v 7724)), (6, .bool (.bl false)), (7, iS (.uf 293 (dnR (.v 2201))))], hdH (.uf 291 (dnR (.v 2201))) (.v 7725) (.v 7721) (.uf 292 (dnR (.v 2201))), 20,
  cP (.il 0) (.v 2201) :: cP (.v 2201) (.uf 294 (pk NW)) :: Nb⟩
 aU := fun _ => Nb
 app := fun _ => true
 mS := fun m => Nat.beq m 0
 dD := fun _ => .ret 0
 ll := fun m => Nat.beq m 0
 mf := fun _ => []
 hx := fun _ => ⟨[(0, .ei 103 (.ptr 1 (.c 0))), (1, iS (.v 7723)), (2, .top), (6, .bool (.bl false)), (7, iS (.uf 297 (pk NW)))], hdH (.uf 295 (pk NW)) (.v 7725) (.v 7721) (.uf 296 (pk NW)), 20, []⟩
 sQ := fun _ _ => .ret 0
 nU := fun _ => .exit 0
 bp := [(.bl true, 0)]
 fixed := [1, 3, 8]
 lt := .o2 .lt (.v 2201) (.uf 294 (pk NW))
 X := (⟨[(ur, w9.aS)], []⟩ : gX).x.xe
 fuel := 800; np := 160
 params := [7720, 7721, 7722, 7723, 7724, 7725]
 xR := [(rG, gF)]
 PF := [(7720, 0, 0, [1]), (7722, 0, 500177, [])]
set_option linter.unusedSimpArgs false
def TZ (b1 k1 b2 k2 : ByteArray) : Bool := if b1.toList = b2.toList then dq k1 k2 else dq b1 b2
def lh (x y : Row) : Bool := TZ (cc x 5).S (kO x) (cc y 5).S (kO y)
def mg (B : List Row) (i : Nat) : Dv := cc (row (.t B) i) 0
def dN (I k : Dv) : Int := (cc (row I (aQ .s k I.T).toNat) 1).I
def yp (A : List Row) (n : Nat) : Row := row (mg A n) 0
def ow (I : Dv) (B A : List Row) (i : Nat) : Row := yp A (dN I (mg B i)).toNat
def zG (B : List Row) (i j : Nat) : List Row := (B.set i [mg B j]).set j [mg B i]
def DH (A : List Row) (m : Nat) (i : Nat) : List Row := A.set m [mg A m, .i i]
def NR (I : Dv) (B A : List Row) (i j : Nat) : List Row := DH (DH A (dN I (mg B i)).toNat i) (dN I (mg B j)).toNat j
structure HS where
 B : List Row
 A : List Row
 j : Nat
def swS (I : Dv) (s : HS) (i j : Nat) (k : Nat) : HS := ⟨zG s.B i j, NR I (zG s.B i j) s.A i j, k⟩
def Wx (I : Dv) (s : HS) (i j : Nat) : Bool := lh (ow I s.B s.A i) (ow I s.B s.A j)
def eh (B I A : Dv) (j : Nat) : Nat -> HS
 | 0 => ⟨B.T, A.T, j⟩
 | t + 1 => swS I (eh B I A j t) (par (eh B I A j t).j) (eh B I A j t).j (par (eh B I A j t).j)
def oM (I : Dv) (s : HS) : Bool := decide (0 < s.j) && Wx I s s.j (par s.j)
def CV (B I A : Dv) (j : Nat) : Nat := stop (fun t => !oM I (eh B I A j t)) (j + 1)
def gV (I : Dv) (s : HS) (m : Nat) : Nat := if decide (2 * s.j + 2 < m) && Wx I s (2 * s.j + 2) (2 * s.j + 1) then 2 * s.j + 2 else 2 * s.j + 1
def dI (B I A : Dv) (m j : Nat) : Nat -> HS
 | 0 => ⟨B.T, A.T, j⟩
 | t + 1 => swS I (dI B I A m j t) (dI B I A m j t).j (gV I (dI B I A m j t) m) (gV I (dI B I A m j t) m)
def nD (I : Dv) (s : HS) (m : Nat) : Bool := decide (2 * s.j + 1 < m) && Wx I s (gV I s m) s.j
def xv (B I A : Dv) (m j : Nat) : Nat := stop (fun t => !nD I (dI B I A m j t) m) (m + 1)
structure AX (B : List Row) (I : Dv) (A : List Row) (m : Nat) : Prop where
 n : m <= B.length
 k : ∀ x, x < m -> 0 <= aQ .s (mg B x) I.T
 i : ∀ x, x < m -> 0 <= dN I (mg B x)
 l : ∀ x, x < m -> (dN I (mg B x)).toNat < A.length
 b : ∀ x, x < m -> bad (ow I B A x) = false
 o : ∀ x, x < m -> jg (ow I B A x)
noncomputable def ade (c : Nat) (d : Dv) : Dv :=
 match c with
 | 280 => .b (TZ (ar d 0).S (ar d 1).S (ar d 2).S (ar d 3).S)
 | 281 => .t (eh (ar d 0) (ar d 1) (ar d 2) (ar d 3).I.toNat (ar d 4).I.toNat).B
 | 282 => .t (eh (ar d 0) (ar d 1) (ar d 2) (ar d 3).I.toNat (ar d 4).I.toNat).A
 | 283 => .i (eh (ar d 0) (ar d 1) (ar d 2) (ar d 3).I.toNat (ar d 4).I.toNat).j
 | 284 => .i (CV (ar d 0) (ar d 1) (ar d 2) (ar d 3).I.toNat : Nat)
 | 285 => .t (eh (ar d 0) (ar d 1) (ar d 2) (ar d 3).I.toNat (CV (ar d 0) (ar d 1) (ar d 2) (ar d 3).I.toNat)).B
 | 286 => .t (eh (ar d 0) (ar d 1) (ar d 2) (ar d 3).I.toNat (CV (ar d 0) (ar d 1) (ar d 2) (ar d 3).I.toNat)).A
 | 287 => .b (dec (AX (ar d 0).T (ar d 1) (ar d 2).T (ar d 3).I.toNat))
 | 291 => .t (dI (ar d 0) (ar d 1) (ar d 2) (ar d 4).I.toNat (ar d 3).I.toNat (ar d 5).I.toNat).B
 | 292 => .t (dI (ar d 0) (ar d 1) (ar d 2) (ar d 4).I.toNat (ar d 3).I.toNat (ar d 5).I.toNat).A
 | 293 => .i (dI (ar d 0) (ar d 1) (ar d 2) (ar d 4).I.toNat (ar d 3).I.toNat (ar d 5).I.toNat).j
 | 294 => .i (xv (ar d 0) (ar d 1) (ar d 2) (ar d 4).I.toNat (ar d 3).I.toNat : Nat)
 | 295 => .t (dI (ar d 0) (ar d 1) (ar d 2) (ar d 4).I.toNat (ar d 3).I.toNat (xv (ar d 0) (ar d 1) (ar d 2) (ar d 4).I.toNat (ar d 3).I.toNat)).B
 | 296 => .t (dI (ar d 0) (ar d 1) (ar d 2) (ar d 4).I.toNat (ar d 3).I.toNat (xv (ar d 0) (ar d 1) (ar d 2) (ar d 4).I.toNat (ar d 3).I.toNat)).A
 | 297 => .i (dI (ar d 0) (ar d 1) (ar d 2) (ar d 4).I.toNat (ar d 3).I.toNat (xv (ar d 0) (ar d 1) (ar d 2) (ar d 4).I.toNat (ar d 3).I.toNat)).j
 | _ => .i 0
def OH (o : Env) : Prop := ∀ c d, 280 <= c -> c < 300 -> o.uf c d = ade c d
theorem OH.aA {o o' : Env} (h : OH o) (e : o'.uf = o.uf) : OH o' := fun c d h1 h2 => by rw [e]; exact h c d h1 h2
theorem OH.all {o : Env} (h : OH o) :
    ((∀ d, o.uf 280 d = .b (TZ (ar d 0).S (ar d 1).S (ar d 2).S (ar d 3).S)) /\
    (∀ d, o.uf 281 d = .t (eh (ar d 0) (ar d 1) (ar d 2) (ar d 3).I.toNat (ar d 4).I.toNat).B) /\
    (∀ d, o.uf 282 d = .t (eh (ar d 0) (ar d 1) (ar d 2) (ar d 3).I.toNat (ar d 4).I.toNat).A) /\
    (∀ d, o.uf 283 d = .i (eh (ar d 0) (ar d 1) (ar d 2) (ar d 3).I.toNat (ar d 4).I.toNat).j) /\
    (∀ d, o.uf 284 d = .i (CV (ar d 0) (ar d 1) (ar d 2) (ar d 3).I.toNat : Nat)) /\
    (∀ d, o.uf 285 d = .t (eh (ar d 0) (ar d 1) (ar d 2) (ar d 3).I.toNat (CV (ar d 0) (ar d 1) (ar d 2) (ar d 3).I.toNat)).B) /\
    (∀ d, o.uf 286 d = .t (eh (ar d 0) (ar d 1) (ar d 2) (ar d 3).I.toNat (CV (ar d 0) (ar d 1) (ar d 2) (ar d 3).I.toNat)).A) /\
    (∀ d, o.uf 287 d = .b (dec (AX (ar d 0).T (ar d 1) (ar d 2).T (ar d 3).I.toNat)))) /\
    ((∀ d, o.uf 291 d = .t (dI (ar d 0) (ar d 1) (ar d 2) (ar d 4).I.toNat (ar d 3).I.toNat (ar d 5).I.toNat).B) /\
    (∀ d, o.uf 292 d = .t (dI (ar d 0) (ar d 1) (ar d 2) (ar d 4).I.toNat (ar d 3).I.toNat (ar d 5).I.toNat).A) /\
    (∀ d, o.uf 293 d = .i (dI (ar d 0) (ar d 1) (ar d 2) (ar d 4).I.toNat (ar d 3).I.toNat (ar d 5).I.toNat).j) /\
    (∀ d, o.uf 294 d = .i (xv (ar d 0) (ar d 1) (ar d 2) (ar d 4).I.toNat (ar d 3).I.toNat : Nat)) /\
    (∀ d, o.uf 295 d = .t (dI (ar d 0) (ar d 1) (ar d 2) (ar d 4).I.toNat (ar d 3).I.toNat (xv (ar d 0) (ar d 1) (ar d 2) (ar d 4).I.toNat (ar d 3).I.toNat)).B) /\
    (∀ d, o.uf 296 d = .t (dI (ar d 0) (ar d 1) (ar d 2) (ar d 4).I.toNat (ar d 3).I.toNat (xv (ar d 0) (ar d 1) (ar d 2) (ar d 4).I.toNat (ar d 3).I.toNat)).A) /\
    (∀ d, o.uf 297 d = .i (dI (ar d 0) (ar d 1) (ar d 2) (ar d 4).I.toNat (ar d 3).I.toNat (xv (ar d 0) (ar d 1) (ar d 2) (ar d 4).I.toNat (ar d 3).I.toNat)).j)) :=
 ⟨⟨fun d => h 280 d (by decide) (by decide), fun d => h 281 d (by decide) (by decide), fun d => h 282 d (by decide) (by decide), fun d => h 283 d (by decide) (by decide), fun d => h 284 d (by decide) (by decide), fun d => h 285 d (by decide) (by decide), fun d => h 286 d (by decide) (by decide), fun d => h 287 d (by decide) (by decide)⟩,
  fun d => h 291 d (by decide) (by decide), fun d => h 292 d (by decide) (by decide), fun d => h 293 d (by decide) (by decide), fun d => h 294 d (by decide) (by decide), fun d => h 295 d (by decide) (by decide), fun d => h 296 d (by decide) (by decide), fun d => h 297 d (by decide) (by decide)⟩
section
variable {B A : List Row} {I k : Dv} {i j n : Nat} {x y : Row}
theorem adw : cc (row (.t B) i) 0 = mg B i := id rfl
theorem acM : row (mg A n) 0 = yp A n := id rfl
theorem acS : (cc (row I (aQ .s k I.T).toNat) 1).I = dN I k := id rfl
theorem acH : yp A (dN I (mg B i)).toNat = ow I B A i := id rfl
theorem Y7 : (B.set i [mg B j]).set j [mg B i] = zG B i j := id rfl
theorem Sm : A.set n [mg A n, .i i] = DH A n i := id rfl
theorem adl : TZ (cc x 5).S (jo (cc x 0).S (cc x 1).S) (cc y 5).S (jo (cc y 0).S (cc y 1).S) = lh x y := id rfl
theorem Z2 : Ra (cc x 0) (cc x 1) (cc x 4) ↔ jg x := Iff.rfl
theorem S5 : (cc x 6).B = bad x := id rfl
end
theorem py {l : List Row} {i k : Nat} {x : Row} (hi : i < l.length) : row (.t (l.set i x)) k = if k = i then x else row (.t l) k := by
 unfold row; show ((l.set i x)[k]?).getD [] = _; rw [List.getElem?_set]
 by_cases e : i = k
 ·subst e; simp [hi]
 ·rw [if_neg e, if_neg fun q => e q.symm]; rfl
theorem KI {l : List Row} {i k : Nat} {x : Dv} (hi : i < l.length) : mg (l.set i [x]) k = if k = i then x else mg l k := by
 unfold mg; rw [py hi]; split <;> rfl
theorem fq {B : List Row} {i j : Nat} : (zG B i j).length = B.length := by unfold zG; rw [List.length_set, List.length_set]
theorem uq {B : List Row} {i j : Nat} (hi : i < B.length) (hj : j < B.length) (k : Nat) : mg (zG B i j) k = swp (mg B) i j k := by
 unfold zG; rw [KI (by rw [List.length_set]; exact hj), KI hi]
 unfold swp
 by_cases h1 : k = j
 ·subst h1; rw [if_pos rfl]
  by_cases h2 : k = i
  ·subst h2; rw [if_pos rfl]
  ·rw [if_neg h2, if_pos rfl]
 ·rw [if_neg h1]
  by_cases h2 : k = i
  ·rw [if_pos h2, if_pos h2]
  ·rw [if_neg h2, if_neg h2, if_neg h1]
theorem xd {A : List Row} {m i : Nat} : (DH A m i).length = A.length := List.length_set ..
theorem GI {A : List Row} {m i : Nat} (k : Nat) : yp (DH A m i) k = yp A k := by
 unfold yp DH
 by_cases hm : m < A.length
 ·have : mg (A.set m [mg A m, .i i]) k = mg A k := by
    show cc (row _ k) 0 = _; rw [py hm]; split
    ·rename_i e; rw [e]; rfl
    ·rfl
  rw [this]
 ·rw [List.set_eq_of_length_le (by omega)]
theorem jX {I : Dv} {B A : List Row} {i j : Nat} : (NR I B A i j).length = A.length := by unfold NR; rw [xd, xd]
theorem WS {I : Dv} {B A : List Row} {i j : Nat} (k : Nat) : yp (NR I B A i j) k = yp A k := by
 unfold NR; rw [GI, GI]
theorem MD {I : Dv} {B A : List Row} {i j : Nat} (hi : i < B.length) (hj : j < B.length) : ow I (zG B i j) (NR I (zG B i j) A i j) = swp (ow I B A) i j := by
 funext k
 unfold ow; rw [WS, uq hi hj]; unfold swp; split
 ·rfl
 split <;> rfl
theorem xn {α : Type} {H : Nat -> α} {P : α -> Prop} {i j n : Nat} (hi : i < n) (hj : j < n) (h : ∀ k, k < n -> P (H k)) : ∀ k, k < n -> P (swp H i j k) := fun k hk => by
 unfold swp; split
 ·exact h j hj
 split
 ·exact h i hi
 ·exact h k hk
theorem ie {B : List Row} {I : Dv} {A : List Row} {n i j : Nat} (h : AX B I A n) (hi : i < n) (hj : j < n) : AX (zG B i j) I (NR I (zG B i j) A i j) n := by
 have hi' : i < B.length := Nat.lt_of_lt_of_le hi h.n; have hj' : j < B.length := Nat.lt_of_lt_of_le hj h.n; refine ⟨by rw [fq]; exact h.n, fun k hk => ?_, fun k hk => ?_, fun k hk => ?_, fun k hk => ?_, fun k hk => ?_⟩
 ·rw [uq hi' hj']; exact xn (P := fun x => 0 <= aQ .s x I.T) hi hj h.k k hk
 ·rw [uq hi' hj']; exact xn (P := fun x => 0 <= dN I x) hi hj h.i k hk
 ·rw [uq hi' hj', jX]; exact xn (P := fun x => (dN I x).toNat < A.length) hi hj h.l k hk
 ·rw [MD hi' hj']; exact xn (P := fun x => bad x = false) hi hj h.b k hk
 ·rw [MD hi' hj']; exact xn (P := fun x => jg x) hi hj h.o k hk
section
variable {B I A : Dv} {n j : Nat}
theorem MF {j : Nat} (h : 0 < j) : par j < j := by unfold par; omega
theorem lg {j : Nat} : par j <= j := by unfold par; omega
theorem Vq (t : Nat) : (eh B I A j t).j <= j := by
 induction t with
 | zero => exact Nat.le_refl _
 | succ t ih => exact Nat.le_trans lg ih
theorem aaG (h : AX B.T I A.T n) (hj : j < n) (t : Nat) : AX (eh B I A j t).B I (eh B I A j t).A n := by
 induction t with
 | zero => exact h
 | succ t ih =>
   have := Vq (B := B) (I := I) (A := A) (j := j) t; have := lg (j := (eh B I A j t).j); exact ie ih (by omega) (by omega)
theorem Vn (t : Nat) : (eh B I A j t).B.length = B.T.length /\ (eh B I A j t).A.length = A.T.length := by
 induction t with
 | zero => exact ⟨rfl, rfl⟩
 | succ t ih => exact ⟨fq.trans ih.1, jX.trans ih.2⟩
theorem up_down (t : Nat) (h : ∀ s, s < t -> 0 < (eh B I A j s).j) : (eh B I A j t).j + t <= j := by
 induction t with
 | zero => exact Nat.le_refl _
 | succ t ih =>
   have ih := ih fun s hs => h s (by omega)
   have h0 := h t (Nat.lt_succ_self t); have : (eh B I A j (t + 1)).j = par (eh B I A j t).j := rfl; have := MF h0; omega
end
section
variable {B I A : Dv} {n m j : Nat}
theorem M8 {s : HS} : s.j < gV I s m := by unfold gV; split <;> omega
theorem G9 {s : HS} (h : 2 * s.j + 1 < m) : gV I s m < m := by
 unfold gV; split
 ·rename_i q; rw [Bool.and_eq_true, decide_eq_true_eq] at q; exact q.1
 ·exact h
theorem adn {s : HS} (h : 2 * s.j + 2 < m) (hl : lh (ow I s.B s.A (2 * s.j + 2)) (ow I s.B s.A (2 * s.j + 1)) = true) : gV I s m = 2 * s.j + 2 := by
 unfold gV Wx; rw [decide_eq_true h, hl]; rfl
theorem ac4 {s : HS} (hl : lh (ow I s.B s.A (2 * s.j + 2)) (ow I s.B s.A (2 * s.j + 1)) = false) : gV I s m = 2 * s.j + 1 := by
 unfold gV Wx; rw [hl, Bool.and_false]; rfl
theorem Zc {s : HS} (h : ¬ 2 * s.j + 2 < m) : gV I s m = 2 * s.j + 1 := by
 unfold gV; rw [decide_eq_false h]; rfl
theorem tN {s : HS} {c : Nat} {b : Bool} (hk : gV I s m = c) (h : 2 * s.j + 1 < m) (hl : lh (ow I s.B s.A c) (ow I s.B s.A s.j) = b) : nD I s m = b := by
 unfold nD Wx; rw [hk, decide_eq_true h, hl, Bool.true_and]
theorem aab {s : HS} (h : ¬ 2 * s.j + 1 < m) : nD I s m = false := by
 unfold nD; rw [decide_eq_false h, Bool.false_and]
theorem NL (t : Nat) : j + t <= (dI B I A m j t).j := by
 induction t with
 | zero => exact Nat.le_refl _
 | succ t ih =>
   have := M8 (I := I) (m := m) (s := dI B I A m j t); have e : (dI B I A m j (t + 1)).j = gV I (dI B I A m j t) m := rfl; omega
theorem FK (t : Nat) : (dI B I A m j t).B.length = B.T.length /\ (dI B I A m j t).A.length = A.T.length := by
 induction t with
 | zero => exact ⟨rfl, rfl⟩
 | succ t ih => exact ⟨fq.trans ih.1, jX.trans ih.2⟩
theorem EL {t : Nat} (h : t < xv B I A m j) : nD I (dI B I A m j t) m = true := by
 have h3 := bI (show t < stop (fun t => !nD I (dI B I A m j t) m) (m + 1) from h); simpa using h3
theorem adJ {r : Nat} (h : r <= xv B I A m j) (hg : nD I (dI B I A m j r) m = true) : r < xv B I A m j := by
 have h1 := NL (B := B) (I := I) (A := A) (m := m) (j := j) r
 have h2 : 2 * (dI B I A m j r).j + 1 < m := by
  unfold nD at hg; rw [Bool.and_eq_true, decide_eq_true_eq] at hg; exact hg.1
 exact rS h (by omega) (by rw [hg]; rfl)
theorem HO {P : Nat -> Bool} {n r : Nat} (h : r <= stop P n) (hr : P r = true \/ n <= r) : stop P n = r := by
 refine Nat.le_antisymm (Nat.le_of_not_lt fun hl => ?_) h; rcases hr with q | q
 ·rw [bI hl] at q; cases q
 ·have := @j8 P n; omega
theorem YB {r : Nat} (h : r <= xv B I A m j) (hg : nD I (dI B I A m j r) m = false) : xv B I A m j = r :=
 HO h (.inl (by rw [hg]; rfl))
theorem Lo {s : HS} (h : nD I s m = true) : 2 * s.j + 1 < m := by
 unfold nD at h; rw [Bool.and_eq_true, decide_eq_true_eq] at h; exact h.1
theorem abH (h : AX B.T I A.T n) (hm : m <= n) (t : Nat) (ht : t <= xv B I A m j) : AX (dI B I A m j t).B I (dI B I A m j t).A n := by
 induction t with
 | zero => exact h
 | succ t ih =>
   have hg := Lo (EL (Nat.lt_of_succ_le ht)); have := G9 (I := I) hg; exact ie (ih (by omega)) (by omega) (by omega)
theorem af3 (t : Nat) (ht : t <= xv B I A m j) : (dI B I A m j t).j = j \/ (dI B I A m j t).j < m := by
 cases t with
 | zero => exact .inl rfl
 | succ t => exact .inr (G9 (I := I) (Lo (EL (Nat.lt_of_succ_le ht))))
end
theorem pE {x y : Row} : lh x y = true ↔ (cc x 5).S.toList < (cc y 5).S.toList \/ ((cc x 5).S.toList = (cc y 5).S.toList /\ (kO x).toList < (kO y).toList) := by
 unfold lh TZ; split
 ·rename_i h; rw [uj, decide_eq_true_eq]; exact ⟨fun q => .inr ⟨h, q⟩, fun q => q.elim (fun q => absurd h (lM q)) (·.2)⟩
 ·rename_i h; rw [uj, decide_eq_true_eq]; exact ⟨.inl, fun q => q.elim id fun q => absurd q.1 h⟩
theorem j6 : EC lh := by
 constructor
 ·intro a b h; rw [<- Bool.not_eq_true, pE]; rw [pE] at h; rintro (q | ⟨q1, q2⟩)
  ·rcases h with h | ⟨h1, h2⟩
   ·exact List.lt_asymm h q
   ·rw [h1] at q; exact List.lt_irrefl _ q
  ·rcases h with h | ⟨h1, h2⟩
   ·rw [q1] at h; exact List.lt_irrefl _ h
   ·exact List.lt_asymm h2 q2
 ·intro a b c h1 h2; rw [<- Bool.not_eq_true, pE] at h1 h2 ⊢; intro q; rcases Y0 (cc b 5).S.toList (cc a 5).S.toList with p | p | p
  ·exact h1 (.inl p)
  ·rcases q with q | ⟨q, r⟩
   ·rw [<- p] at q; exact h2 (.inl q)
   ·rcases Y0 (kO b).toList (kO a).toList with s | s | s
    ·exact h1 (.inr ⟨p, s⟩)
    ·refine h2 (.inr ⟨by rw [p, q], ?_⟩)
     rw [s]; exact r
    ·exact h2 (.inr ⟨by rw [p, q], List.lt_trans r s⟩)
  ·rcases q with q | ⟨q, r⟩
   ·exact h2 (.inl (List.lt_trans q p))
   ·rw [<- q] at p; exact h2 (.inl p)
structure HM where
 B : List Row
 n : Nat
 I : List Row
 A : List Row
def HM.key (h : HM) : Nat -> Dv := mg h.B
def HM.slot (h : HM) (i : Nat) : Nat := (dN (.t h.I) (mg h.B i)).toNat
def HM.ob (h : HM) : Nat -> Row := ow (.t h.I) h.B h.A
def HM.mem (h : HM) (x : Row) : Prop := ∃ i, i < h.n /\ h.ob i = x
structure eJ (h : HM) : Prop where
 dK : AX h.B (.t h.I) h.A h.n
 d : ∀ i j, i < h.n -> j < h.n -> (h.key i).S.toList = (h.key j).S.toList -> i = j
 u : o5 h.I
 r : ∀ r ∈ h.I, ∃ i, i < h.n /\ (h.key i).S.toList = ky r
 x : ∀ i j, i < h.n -> j < h.n -> h.slot i = h.slot j -> i = j
 p : ∀ i, i < h.n -> cc (row (.t h.A) (h.slot i)) 1 = .i (i : Int)
 k : ∀ i, i < h.n -> (kO (h.ob i)).toList = (h.key i).S.toList
def bo (h : HM) (i j : Nat) : HM := ⟨zG h.B i j, h.n, h.I, NR (.t h.I) (zG h.B i j) h.A i j⟩
theorem BS {h : HM} {i j : Nat} (hi : i < h.B.length) (hj : j < h.B.length) : (bo h i j).key = swp h.key i j := funext (uq hi hj)
theorem jk {h : HM} {i j : Nat} (hi : i < h.B.length) (hj : j < h.B.length) : (bo h i j).ob = swp h.ob i j := MD hi hj
theorem RB {h : HM} {i j : Nat} (hi : i < h.B.length) (hj : j < h.B.length) : (bo h i j).slot = swp h.slot i j := by
 funext k
 show (dN (.t h.I) (mg (zG h.B i j) k)).toNat = _; rw [uq hi hj]; unfold swp; split
 ·rfl
 split <;> rfl
def B6 (i j k : Nat) : Nat := if k = i then j else if k = j then i else k
theorem jc {α : Type} {H : Nat -> α} {i j k : Nat} : swp H i j k = H (B6 i j k) := by
 unfold swp B6; split
 ·rfl
 split <;> rfl
theorem nv {i j k n : Nat} (hi : i < n) (hj : j < n) (hk : k < n) : B6 i j k < n := by
 unfold B6; split
 ·exact hj
 split
 ·exact hi
 ·exact hk
theorem vg {i j k : Nat} : B6 i j (B6 i j k) = k := by
 unfold B6
 by_cases h1 : k = i
 ·subst h1; rw [if_pos rfl]
  by_cases h2 : j = k
  ·rw [if_pos h2, h2]
  ·rw [if_neg h2, if_pos rfl]
 ·rw [if_neg h1]
  by_cases h2 : k = j
  ·rw [if_pos h2, if_pos rfl, h2]
  ·rw [if_neg h2, if_neg h1, if_neg h2]
theorem HA {i j a b : Nat} (h : B6 i j a = B6 i j b) : a = b := by
 rw [<- vg (i := i) (j := j) (k := a), h, vg]
theorem Le {A : List Row} {m i k : Nat} (hm : m < A.length) : cc (row (.t (DH A m i)) k) 1 = if k = m then .i (i : Int) else cc (row (.t A) k) 1 := by
 unfold DH; rw [py hm]; split <;> rfl
theorem Bq {h : HM} {i j : Nat} (hi : i < h.n) (hj : j < h.n) (hn : h.n <= h.B.length) (x : Row) : (bo h i j).mem x ↔ h.mem x := by
 have e := jk (h := h) (Nat.lt_of_lt_of_le hi hn) (Nat.lt_of_lt_of_le hj hn); constructor
 ·rintro ⟨k, hk, q⟩; rw [e, jc] at q; exact ⟨_, nv hi hj hk, q⟩
 ·rintro ⟨k, hk, q⟩; refine ⟨B6 i j k, nv hi hj hk, ?_⟩; rw [e, jc, vg]; exact q
theorem fj {h : HM} {i j : Nat} (c : eJ h) (hi : i < h.n) (hj : j < h.n) : eJ (bo h i j) := by
 have hn := c.dK.n; have hi' := Nat.lt_of_lt_of_le hi hn; have hj' := Nat.lt_of_lt_of_le hj hn; have ek := BS hi' hj'; have es := RB hi' hj'; have eo := jk hi' hj'; refine ⟨ie c.dK hi hj, fun a b ha hb e => ?_, c.u, fun r hr => ?_, fun a b ha hb e => ?_, fun a ha => ?_, fun a ha => ?_⟩
 ·rw [ek, jc, jc] at e; exact HA (c.d _ _ (nv hi hj ha) (nv hi hj hb) e)
 ·obtain ⟨a, ha, e⟩ := c.r r hr; refine ⟨B6 i j a, nv hi hj ha, ?_⟩; rw [ek, jc, vg]; exact e
 ·rw [es, jc, jc] at e; exact HA (c.x _ _ (nv hi hj ha) (nv hi hj hb) e)
 ·have si : (dN (.t h.I) (mg (zG h.B i j) i)).toNat = h.slot j := by
    have := congrFun es i; rw [vK] at this; exact this
  have sj : (dN (.t h.I) (mg (zG h.B i j) j)).toNat = h.slot i := by
   have := congrFun es j; rw [tT] at this; exact this
  have l1 : h.slot j < h.A.length := c.dK.l j hj; have l2 : h.slot i < h.A.length := c.dK.l i hi; show cc (row (.t (NR (.t h.I) (zG h.B i j) h.A i j)) ((bo h i j).slot a)) 1 = .i (a : Int); unfold NR; rw [si, sj, Le (by rw [xd]; exact l2), Le l1, es, jc]
  by_cases h1 : a = j
  ·subst h1; rw [if_pos]; have : B6 i a a = i := by unfold B6; split <;> simp_all
   rw [this]
  ·rw [if_neg (fun q => h1 (by
     have q := c.x _ _ (nv hi hj ha) hi q; unfold B6 at q; split at q
     ·rename_i e; rw [e, q]
     ·rename_i e; exact absurd q e))]
   by_cases h2 : a = i
   ·subst h2; rw [if_pos]; have : B6 a j a = j := by unfold B6; rw [if_pos rfl]
    rw [this]
   ·have e : B6 i j a = a := by unfold B6; rw [if_neg h2, if_neg h1]
    rw [e, if_neg fun q => h1 (c.x _ _ ha hj q)]; exact c.p a ha
 ·rw [ek, eo, jc, jc]; exact c.k _ (nv hi hj ha)
def oL (h : HM) (s : HS) : HM := ⟨s.B, h.n, h.I, s.A⟩
def qo (h : HM) (j : Nat) (t : Nat) : HS := eh (.t h.B) (.t h.I) (.t h.A) j t
def Ij (h : HM) (j : Nat) : Nat := CV (.t h.B) (.t h.I) (.t h.A) j
def p7 (h : HM) (j : Nat) : HM := oL h (qo h j (Ij h j))
def pL (h : HM) (m j : Nat) (t : Nat) : HS := dI (.t h.B) (.t h.I) (.t h.A) m j t
def zK (h : HM) (m j : Nat) : Nat := xv (.t h.B) (.t h.I) (.t h.A) m j
def cU (h : HM) (m j : Nat) : HM := oL h (pL h m j (zK h m j))
def B7 (h : HM) (m j : Nat) : Nat := (pL h m j (zK h m j)).j
def gC (h : HM) (m j : Nat) : HM := if j < B7 h m j then cU h m j else p7 (cU h m j) j
theorem Ku {h : HM} {j t : Nat} (ht : t < Ij h j) : oM (.t h.I) (qo h j t) = true := by
 have h3 := bI (show t < stop (fun t => !oM (.t h.I) (eh (.t h.B) (.t h.I) (.t h.A) j t)) (j + 1) from ht); have h4 : (!oM (.t h.I) (qo h j t)) = false := h3; simpa using h4
theorem Ys {h : HM} {j : Nat} (hj : ∀ t, t < Ij h j -> 0 < (qo h j t).j) : oM (.t h.I) (qo h j (Ij h j)) = false := by
 have hd := up_down (B := .t h.B) (I := .t h.I) (A := .t h.A) (j := j) (Ij h j) hj
 have h3 := nb (show stop (fun t => !oM (.t h.I) (eh (.t h.B) (.t h.I) (.t h.A) j t)) (j + 1) < j + 1 from by
  show Ij h j < j + 1; have : (eh (.t h.B) (.t h.I) (.t h.A) j (Ij h j)).j + Ij h j <= j := hd
  omega)
 have h4 : (!oM (.t h.I) (qo h j (Ij h j))) = true := h3; simpa using h4
structure xS (h0 h : HM) (j : Nat) : Prop where
 c : eJ h
 n : h.n = h0.n
 i : h.I = h0.I
 l : h.A.length = h0.A.length
 b : h.B.length = h0.B.length
 m : ∀ x, h.mem x ↔ h0.mem x
 j : j < h.n
theorem xS.sw {h0 h : HM} {j i k : Nat} (u : xS h0 h j) (hi : i < h.n) (hk : k < h.n) : eJ (bo h i k) /\ ∀ x, (bo h i k).mem x ↔ h0.mem x :=
 ⟨fj u.c hi hk, fun x => (Bq hi hk u.c.dK.n x).trans (u.m x)⟩
theorem Gp {h : HM} {j m : Nat} (c : eJ h) (hj : j < m) (hm : m <= h.n) (hp : ru lh h.ob m j) : ∀ t, t <= Ij h j -> xS h (oL h (qo h j t)) (qo h j t).j /\ ru lh (oL h (qo h j t)).ob m (qo h j t).j /\ (qo h j t).j < m
 | 0, _ => ⟨⟨c, rfl, rfl, rfl, rfl, fun x => Iff.rfl, Nat.lt_of_lt_of_le hj hm⟩, hp, hj⟩
 | t + 1, ht => by
   obtain ⟨ih, ip, il⟩ := Gp c hj hm hp t (by omega)
   have hg := Ku (h := h) (j := j) (t := t) (by omega)
   unfold oM at hg; rw [Bool.and_eq_true, decide_eq_true_eq] at hg; obtain ⟨g0, g1⟩ := hg; have hpj : par (qo h j t).j < m := Nat.lt_of_le_of_lt lg il; have hbn := ih.c.dK.n; have e : oL h (qo h j (t + 1)) = bo (oL h (qo h j t)) (par (qo h j t).j) (qo h j t).j := rfl; have ej : (qo h j (t + 1)).j = par (qo h j t).j := rfl; have hn1 : par (qo h j t).j < (oL h (qo h j t)).n := Nat.lt_of_lt_of_le hpj hm; have hn2 : (qo h j t).j < (oL h (qo h j t)).n := Nat.lt_of_lt_of_le il hm; obtain ⟨s1, s2⟩ := ih.sw hn1 hn2; have eo := jk (h := oL h (qo h j t)) (Nat.lt_of_lt_of_le hn1 hbn) (Nat.lt_of_lt_of_le hn2 hbn); rw [e, ej]; refine ⟨⟨s1, rfl, rfl, ?_, ?_, s2, hn1⟩, ?_, hpj⟩
   ·exact jX.trans ih.l
   ·exact fq.trans ih.b
   ·rw [eo]; exact P5 j6 ip g0 il g1
theorem Bg {h : HM} {j m : Nat} (c : eJ h) (hj : j < m) (hm : m <= h.n) (hp : ru lh h.ob m j) : xS h (p7 h j) (qo h j (Ij h j)).j /\ iQ lh (p7 h j).ob m := by
 obtain ⟨a, b, d⟩ := Gp c hj hm hp (Ij h j) (Nat.le_refl _); refine ⟨a, As b ?_⟩
 have hg := Ys (h := h) (j := j) fun t ht => by
  have := Ku ht; unfold oM at this; rw [Bool.and_eq_true, decide_eq_true_eq] at this; exact this.1
 unfold oM at hg; rcases Nat.eq_zero_or_pos (qo h j (Ij h j)).j with q | q
 ·exact .inl q
 ·rw [decide_eq_true q, Bool.true_and] at hg; exact .inr hg
theorem G3 {h : HM} {m j t : Nat} (ht : t < zK h m j) : nD (.t h.I) (pL h m j t) m = true := EL ht
theorem XT {h : HM} {m j : Nat} : nD (.t h.I) (pL h m j (zK h m j)) m = false := by
 have hu := NL (B := .t h.B) (I := .t h.I) (A := .t h.A) (m := m) (j := j) (zK h m j); have hu : j + zK h m j <= (pL h m j (zK h m j)).j := hu; cases hq : nD (.t h.I) (pL h m j (zK h m j)) m with
 | false => rfl
 | true =>
   exfalso; have h2 := Lo hq
   have h3 := nb (show stop (fun t => !nD (.t h.I) (dI (.t h.B) (.t h.I) (.t h.A) m j t) m) (m + 1) < m + 1 from by
    show zK h m j < m + 1
    omega)
   have h4 : (!nD (.t h.I) (pL h m j (zK h m j)) m) = true := h3; rw [hq] at h4; cases h4
theorem Hc {I : Dv} {s : HS} {m : Nat} : ∀ c, 0 < c -> c < m -> par c = s.j -> lh (ow I s.B s.A c) (ow I s.B s.A (gV I s m)) = false := fun c c0 cm hc => by
 rcases (kids c0).1 hc with e | e
 ·subst e; unfold gV; split
  ·rename_i q; rw [Bool.and_eq_true] at q; exact j6.asym _ _ q.2
  ·exact Zr j6 _
 ·subst e; unfold gV; split
  ·exact Zr j6 _
  ·rename_i q; rw [decide_eq_true cm, Bool.true_and, Bool.not_eq_true] at q; exact q
theorem Gw {h : HM} {j m : Nat} (c : eJ h) (hj : j < h.n) (hm : m <= h.n) (hp : cz lh h.ob m j) : ∀ t, t <= zK h m j -> xS h (oL h (pL h m j t)) (pL h m j t).j /\ cz lh (oL h (pL h m j t)).ob m (pL h m j t).j /\ (0 < t -> Fit lh (oL h (pL h m j t)).ob (pL h m j t).j)
 | 0, _ => ⟨⟨c, rfl, rfl, rfl, rfl, fun x => Iff.rfl, hj⟩, hp, fun q => absurd q (Nat.lt_irrefl _)⟩
 | t + 1, ht => by
   obtain ⟨ih, ip, il⟩ := Gw c hj hm hp t (by omega)
   have hg := G3 (h := h) (m := m) (j := j) (t := t) (by omega)
   have hgm := Lo hg; unfold nD at hg; rw [Bool.and_eq_true] at hg; have hk := G9 (I := .t h.I) hgm; have hbn := ih.c.dK.n; have e : oL h (pL h m j (t + 1)) = bo (oL h (pL h m j t)) (pL h m j t).j (gV (.t h.I) (pL h m j t) m) := rfl; have ej : (pL h m j (t + 1)).j = gV (.t h.I) (pL h m j t) m := rfl; have hn1 : (pL h m j t).j < (oL h (pL h m j t)).n := ih.j; have hn2 : gV (.t h.I) (pL h m j t) m < (oL h (pL h m j t)).n := Nat.lt_of_lt_of_le hk hm; obtain ⟨s1, s2⟩ := ih.sw hn1 hn2; have eo := jk (h := oL h (pL h m j t)) (Nat.lt_of_lt_of_le hn1 hbn) (Nat.lt_of_lt_of_le hn2 hbn)
   have hpk : par (gV (.t h.I) (pL h m j t) m) = (pL h m j t).j := by
    unfold gV par; split <;> omega
   have h0 : 0 < gV (.t h.I) (pL h m j t) m := Nat.lt_of_le_of_lt (Nat.zero_le _) M8; have st := Ir j6 ip hpk hk h0 hg.2 Hc; rw [e, ej]; refine ⟨⟨s1, rfl, rfl, ?_, ?_, s2, hn2⟩, ?_, fun _ => ?_⟩
   ·exact jX.trans ih.l
   ·exact fq.trans ih.b
   ·rw [eo]; exact st.1
   ·rw [eo]; exact st.2
theorem iP {h : HM} {j m : Nat} (c : eJ h) (hj : j < h.n) (hm : m <= h.n) (hp : cz lh h.ob m j) :
    xS h (cU h m j) (B7 h m j) /\ ru lh (cU h m j).ob m (B7 h m j) /\ (j < B7 h m j -> Fit lh (cU h m j).ob (B7 h m j)) /\ (¬ j < B7 h m j -> B7 h m j = j) := by
 obtain ⟨a, b, d⟩ := Gw c hj hm hp (zK h m j) (Nat.le_refl _); have he := XT (h := h) (m := m) (j := j); have hup : j + zK h m j <= B7 h m j := NL (B := .t h.B) (I := .t h.I) (A := .t h.A) (m := m) (j := j) (zK h m j); refine ⟨a, down_up b fun k k0 km hk => ?_, fun q => ?_, fun q => by omega⟩
 ·unfold nD at he
  by_cases h2 : 2 * (pL h m j (zK h m j)).j + 1 < m
  ·rw [decide_eq_true h2, Bool.true_and] at he; exact j6.tr _ _ _ he (Hc k k0 km hk)
  ·have := (kids k0).1 hk; show lh _ _ = false; exfalso; have h3 : B7 h m j = (pL h m j (zK h m j)).j := rfl; omega
 ·refine d ?_; rcases Nat.eq_zero_or_pos (zK h m j) with q2 | q2
  ·exfalso
   have : B7 h m j = j := by
    unfold B7; rw [q2]; rfl
   omega
  ·exact q2
theorem Fs {h : HM} {j m : Nat} (c : eJ h) (hj : j < m) (hm : m <= h.n) (hp : cz lh h.ob m j) : eJ (gC h m j) /\ iQ lh (gC h m j).ob m /\ (gC h m j).n = h.n /\ (gC h m j).I = h.I /\ (gC h m j).A.length = h.A.length /\ (gC h m j).B.length = h.B.length /\ ∀ x, (gC h m j).mem x ↔ h.mem x := by
 obtain ⟨u, p, f, g⟩ := iP c (Nat.lt_of_lt_of_le hj hm) hm hp; unfold gC; split
 ·rename_i hl; refine ⟨u.c, As p ?_, u.n, u.i, u.l, u.b, u.m⟩; rcases Nat.eq_zero_or_pos (B7 h m j) with q | q
  ·exact .inl q
  ·exact .inr (f hl q)
 ·rename_i hl; have e := g hl; rw [e] at p; have hn : (cU h m j).n = h.n := u.n; obtain ⟨u2, hh⟩ := Bg u.c hj (by rw [hn]; exact hm) p
  exact ⟨u2.c, hh, u2.n.trans u.n, u2.i.trans u.i, u2.l.trans u.l, u2.b.trans u.b, fun x => (u2.m x).trans (u.m x)⟩
theorem xq {I : List Row} (u : o5 I) {r : Row} (hr : r ∈ I) {k : Dv} (e : ky r = k.S.toList) : dN (.t I) k = (cc r 1).I := by
 unfold dN; show (cc (row (.t I) (aQ .s k I).toNat) 1).I = _; rw [X4 u hr e]
theorem Wi {I : List Row} (u : o5 I) {x : Row} {k : Dv} (hh : 0 <= aQ .s k I) (hne : k.S.toList ≠ ky x) : 0 <= aQ .s k (jI .s I x) /\ dN (.t (jI .s I x)) k = dN (.t I) k := by
 obtain ⟨r, hr, e⟩ := ee.1 hh; have hr2 : r ∈ jI .s I x := (BP u).2 (.inr ⟨hr, by rw [e]; exact hne⟩)
 exact ⟨ee.2 ⟨r, hr2, e⟩, by rw [xq (wm u) hr2 e, xq u hr e]⟩
theorem WZ {I : List Row} (u : o5 I) {k v : Dv} : 0 <= aQ .s k (jI .s I [k, v]) /\ dN (.t (jI .s I [k, v])) k = v.I := by
 have hr2 : [k, v] ∈ jI .s I [k, v] := (BP u).2 (.inl rfl); exact ⟨ee.2 ⟨_, hr2, rfl⟩, xq (wm u) hr2 rfl⟩
theorem X6 {I : List Row} (u : o5 I) {k d : Dv} (hh : 0 <= aQ .s k I) (hne : k.S.toList ≠ d.S.toList) : 0 <= aQ .s k (nV .s I d) /\ dN (.t (nV .s I d)) k = dN (.t I) k := by
 obtain ⟨r, hr, e⟩ := ee.1 hh; have hr2 : r ∈ nV .s I d := (Ho u).2 ⟨hr, by rw [e]; exact hne⟩
 exact ⟨ee.2 ⟨r, hr2, e⟩, by rw [xq (DU u) hr2 e, xq u hr e]⟩
theorem vD {l : List Row} {x : Row} {k : Nat} (h : k < l.length) : row (.t (l ++ [x])) k = row (.t l) k := by
 unfold row; show ((l ++ [x])[k]?).getD [] = _; rw [List.getElem?_append_left h]; rfl
theorem yn {l : List Row} {x : Row} : row (.t (l ++ [x])) l.length = x := by
 unfold row; show ((l ++ [x])[l.length]?).getD [] = _; rw [List.getElem?_append_right (Nat.le_refl _), Nat.sub_self]; rfl
theorem Ka {l : List Row} {n k : Nat} (h : k < n) : row (.t (l.take n)) k = row (.t l) k := by
 unfold row; show ((l.take n)[k]?).getD [] = _; rw [List.getElem?_take_of_lt h]; rfl
structure fY (h : HM) : Prop where
 c : eJ h
 hp : iQ lh h.ob h.n
def bV (h : HM) (k any : Dv) : HM := ⟨h.B.take h.n ++ [[k]], h.n + 1, jI .s h.I [k, .i h.A.length], h.A ++ [[any, .i h.n]]⟩
def jN (h : HM) (k any : Dv) : HM := p7 (bV h k any) h.n
structure jt (any k : Dv) : Prop where
 b : bad (row any 0) = false
 o : jg (row any 0)
 k : (kO (row any 0)).toList = k.S.toList
section
variable {h : HM} {k any : Dv}
theorem GA (hn : h.n <= h.B.length) : (∀ i, i < h.n -> (bV h k any).key i = h.key i) /\ (bV h k any).key h.n = k := by
 have e : (h.B.take h.n).length = h.n := by rw [List.length_take]; omega
 constructor
 ·intro i hi; show cc (row (.t (h.B.take h.n ++ [[k]])) i) 0 = cc (row (.t h.B) i) 0; rw [vD (by omega), Ka hi]
 ·show cc (row (.t (h.B.take h.n ++ [[k]])) h.n) 0 = k; have := yn (l := h.B.take h.n) (x := [k]); rw [e] at this; rw [this]; rfl
theorem CS (c : eJ h) (hf : ¬ 0 <= aQ .s k h.I) : (∀ i, i < h.n -> 0 <= aQ .s ((bV h k any).key i) (bV h k any).I /\ dN (.t (bV h k any).I) ((bV h k any).key i) = dN (.t h.I) (h.key i)) /\
    0 <= aQ .s ((bV h k any).key h.n) (bV h k any).I /\ dN (.t (bV h k any).I) ((bV h k any).key h.n) = h.A.length := by
 obtain ⟨k1, k2⟩ := GA (k := k) (any := any) c.dK.n; constructor
 ·intro i hi; rw [k1 i hi]; refine Wi c.u (c.dK.k i hi) fun e => hf ?_; obtain ⟨r, hr, e2⟩ := ee.1 (c.dK.k i hi); exact ee.2 ⟨r, hr, e2.trans e⟩
 ·rw [k2]; exact WZ c.u
theorem OM {A : List Row} {x : Row} {s : Nat} (hs : s < A.length) : yp (A ++ [x]) s = yp A s := by
 unfold yp mg; rw [vD hs]
theorem FL (c : eJ h) (hf : ¬ 0 <= aQ .s k h.I) : (∀ i, i < h.n -> (bV h k any).ob i = h.ob i) /\ (bV h k any).ob h.n = row any 0 := by
 obtain ⟨s1, s2, s3⟩ := CS (any := any) c hf; constructor
 ·intro i hi; show yp (h.A ++ [[any, .i h.n]]) (dN (.t (bV h k any).I) ((bV h k any).key i)).toNat = yp h.A (dN (.t h.I) (h.key i)).toNat; rw [(s1 i hi).2, OM (show (dN (.t h.I) (h.key i)).toNat < h.A.length from c.dK.l i hi)]
 ·show yp (h.A ++ [[any, .i h.n]]) (dN (.t (bV h k any).I) ((bV h k any).key h.n)).toNat = _; rw [s3, Int.toNat_natCast]; unfold yp mg; rw [yn (l := h.A)]; rfl
theorem sh (c : eJ h) (hf : ¬ 0 <= aQ .s k h.I) (hc : jt any k) : eJ (bV h k any) := by
 obtain ⟨k1, k2⟩ := GA (k := k) (any := any) c.dK.n; obtain ⟨s1, s2, s3⟩ := CS (any := any) c hf; obtain ⟨o1, o2⟩ := FL (any := any) c hf
 have hfk : ∀ i, i < h.n -> (h.key i).S.toList ≠ k.S.toList := fun i hi e => hf (by
  obtain ⟨r, hr, e2⟩ := ee.1 (c.dK.k i hi)
  exact ee.2 ⟨r, hr, e2.trans e⟩)
 have split : ∀ {P : Nat -> Prop}, (∀ i, i < h.n -> P i) -> P h.n -> ∀ i, i < (bV h k any).n -> P i := fun {P} p1 p2 i hi => by
  rcases Nat.lt_or_ge i h.n with q | q
  ·exact p1 i q
  ·have : i = h.n := by
     have : i < h.n + 1 := hi; omega
   rw [this]; exact p2
 have two : ∀ {R : Nat -> Nat -> Prop}, (∀ i j, i < h.n -> j < h.n -> R i j) -> (∀ i, i < h.n -> R i h.n) -> (∀ j, j < h.n -> R h.n j) -> R h.n h.n -> ∀ i j, i < (bV h k any).n -> j < (bV h k any).n -> R i j := fun {R} p1 p2 p3 p4 i j hi hj =>
  split (P := fun i => R i j) (fun i hi => split (P := fun j => R i j) (fun j hj => p1 i j hi hj) (p2 i hi) j hj) (split (P := fun j => R h.n j) p3 p4 j hj) i hi
 refine ⟨⟨?_, ?_, ?_, ?_, ?_, ?_⟩, ?_, wm c.u, ?_, ?_, ?_, ?_⟩
 ·show h.n + 1 <= (h.B.take h.n ++ [[k]]).length; rw [List.length_append, List.length_take]; have := c.dK.n; simp only [List.length_cons, List.length_nil]; omega
 ·exact split (fun i hi => (s1 i hi).1) s2
 ·refine split (fun i hi => ?_) ?_
  ·show 0 <= dN (.t (bV h k any).I) ((bV h k any).key i); rw [(s1 i hi).2]; exact c.dK.i i hi
  ·show 0 <= dN (.t (bV h k any).I) ((bV h k any).key h.n); rw [s3]; omega
 ·refine split (fun i hi => ?_) ?_
  ·show (dN (.t (bV h k any).I) ((bV h k any).key i)).toNat < (h.A ++ [[any, .i h.n]]).length; rw [(s1 i hi).2, List.length_append]; exact Nat.lt_of_lt_of_le (c.dK.l i hi) (Nat.le_add_right _ _)
  ·show (dN (.t (bV h k any).I) ((bV h k any).key h.n)).toNat < (h.A ++ [[any, .i h.n]]).length; rw [s3, List.length_append, Int.toNat_natCast]; exact Nat.lt_succ_self _
 ·refine split (fun i hi => ?_) ?_
  ·show bad ((bV h k any).ob i) = false; rw [o1 i hi]; exact c.dK.b i hi
  ·show bad ((bV h k any).ob h.n) = false; rw [o2]; exact hc.b
 ·refine split (fun i hi => ?_) ?_
  ·show jg ((bV h k any).ob i); rw [o1 i hi]; exact c.dK.o i hi
  ·show jg ((bV h k any).ob h.n); rw [o2]; exact hc.o
 ·refine two (R := fun i j => ((bV h k any).key i).S.toList = ((bV h k any).key j).S.toList -> i = j) (fun i j hi hj e => ?_) (fun i hi e => ?_) (fun j hj e => ?_) fun _ => rfl
  ·rw [k1 i hi, k1 j hj] at e; exact c.d i j hi hj e
  ·rw [k1 i hi, k2] at e; exact absurd e (hfk i hi)
  ·rw [k1 j hj, k2] at e; exact absurd e.symm (hfk j hj)
 ·intro r hr; rcases (BP c.u).1 hr with rfl | ⟨hr, _⟩
  ·exact ⟨h.n, Nat.lt_succ_self _, by rw [k2]; rfl⟩
  ·obtain ⟨i, hi, e⟩ := c.r r hr; exact ⟨i, Nat.lt_succ_of_lt hi, by rw [k1 i hi]; exact e⟩
 ·have sl : ∀ i, i < h.n -> (bV h k any).slot i = h.slot i := fun i hi => congrArg Int.toNat (s1 i hi).2; have sn : (bV h k any).slot h.n = h.A.length := (congrArg Int.toNat s3).trans (Int.toNat_natCast _); have lt : ∀ i, i < h.n -> h.slot i < h.A.length := c.dK.l; refine two (R := fun i j => (bV h k any).slot i = (bV h k any).slot j -> i = j) (fun i j hi hj e => ?_) (fun i hi e => ?_) (fun j hj e => ?_) fun _ => rfl
  ·rw [sl i hi, sl j hj] at e; exact c.x i j hi hj e
  ·rw [sl i hi, sn] at e; have := lt i hi; omega
  ·rw [sl j hj, sn] at e; have := lt j hj; omega
 ·refine split (fun i hi => ?_) ?_
  ·show cc (row (.t (h.A ++ [[any, .i h.n]])) (dN (.t (bV h k any).I) ((bV h k any).key i)).toNat) 1 = .i (i : Int); rw [(s1 i hi).2, vD (show (dN (.t h.I) (h.key i)).toNat < h.A.length from c.dK.l i hi)]; exact c.p i hi
  ·show cc (row (.t (h.A ++ [[any, .i h.n]])) (dN (.t (bV h k any).I) ((bV h k any).key h.n)).toNat) 1 = .i (h.n : Int); rw [s3, Int.toNat_natCast, yn (l := h.A)]; rfl
 ·refine split (fun i hi => ?_) ?_
  ·rw [o1 i hi, k1 i hi]; exact c.k i hi
  ·rw [o2, k2]; exact hc.k
theorem Qu (c : eJ h) (hf : ¬ 0 <= aQ .s k h.I) (x : Row) : (bV h k any).mem x ↔ x = row any 0 \/ h.mem x := by
 obtain ⟨o1, o2⟩ := FL (any := any) c hf; constructor
 ·rintro ⟨i, hi, e⟩; rcases Nat.lt_or_ge i h.n with q | q
  ·exact .inr ⟨i, q, by rw [<- o1 i q]; exact e⟩
  ·have : i = h.n := by
     have : i < h.n + 1 := hi; omega
   subst this; exact .inl (by rw [<- e, o2])
 ·rintro (rfl | ⟨i, hi, e⟩)
  ·exact ⟨h.n, Nat.lt_succ_self _, o2⟩
  ·exact ⟨i, Nat.lt_succ_of_lt hi, by rw [o1 i hi]; exact e⟩
theorem OK (v : fY h) (hf : ¬ 0 <= aQ .s k h.I) (hc : jt any k) : fY (jN h k any) /\ (∀ x, (jN h k any).mem x ↔ x = row any 0 \/ h.mem x) /\ (jN h k any).n = h.n + 1 /\ (jN h k any).A.length = h.A.length + 1 /\ (jN h k any).B.length = h.n + 1 /\ (jN h k any).I = jI .s h.I [k, .i h.A.length] := by
 obtain ⟨o1, o2⟩ := FL (any := any) v.c hf; have c := sh v.c hf hc
 have hp : iQ lh (bV h k any).ob h.n := fun i i0 hi => by
  rw [o1 i hi, o1 _ (Nat.lt_of_le_of_lt lg hi)]; exact v.hp i i0 hi
 obtain ⟨u, q⟩ := Bg c (Nat.lt_succ_self h.n) (Nat.le_refl _) (Xq hp); refine ⟨⟨u.c, ?_⟩, fun x => (u.m x).trans (Qu v.c hf x), u.n, u.l.trans ?_, u.b.trans ?_, u.i⟩
 ·show iQ lh _ (p7 (bV h k any) h.n).n; rw [u.n]; exact q
 ·show (h.A ++ [_]).length = _; rw [List.length_append]; rfl
 ·show (h.B.take h.n ++ [_]).length = _; have := v.c.dK.n; rw [List.length_append, List.length_take]; simp only [List.length_cons, List.length_nil]; omega
end
end Go.Proofs.YtdlppkhmmclipaaGreat.sxObj
