/-
  A HEAP: what is put in, changed and taken out.
-/
import Derived.Test.YtdlppkhmmclipaaGreatSxHpA
namespace Go.Proofs.YtdlppkhmmclipaaGreat.sxObj
open Go.Sx Go.RowKit Go.Proofs.YtdlppkhmmclipaaGreat
set_option linter.unusedVariables false
set_option linter.unusedSimpArgs false
set_option maxRecDepth 100000
theorem UM {env : Env} {a b : E} : (E.o2 .byte a b).den env = .i ((((a.den env).S.data[(b.den env).I.toNat]?.getD 0).toNat : Nat) : Int) := id rfl
theorem Pr {env : Env} {a b : E} : ((E.o2 .byte a b).den env).I = ((((a.den env).S.data[(b.den env).I.toNat]?.getD 0).toNat : Nat) : Int) := id rfl
theorem Ka : (ByteArray.mk [].toArray).toList = [] := by rw [toList_data]
theorem Y8 {B : Nat -> Bool} {n r : Nat} (h : B r = true) : stop B n <= r := Nat.le_of_not_lt fun hl => by
 have := bJ hl; rw [h] at this; cases this
theorem PD {l : Dv} {r : Nat} : NN l (cc (row l r) 0) (cc (row l r) 1) r = true := by unfold NN; simp
section
variable {o : Env}
theorem WA (hu : OU o) {r : Nat} (hr : o.v 2120 = .i r) (hent : (YR.aU 0).ay o) (hle : (r : Int) <= ((UK (.v 7300) (.v 7301) (.v 7302)).den o).I) : bo o ixL := by
 simp only [YR, G8, wB, aB, Zh, UK, pk, List.foldr, SS, implies_true, hu.Q6, hu.ZE] at hent hle; have h1 := @Cg (NN (o.v 7300) (o.v 7301) (o.v 7302)) (o.v 7300).T.length r (by show r <= J1 _ _ _; omega)
 have h2 := @r6 (NN (o.v 7300) (o.v 7301) (o.v 7302)) (o.v 7300).T.length r (by show r <= J1 _ _ _; omega)
 have h3 := hent.2; simp only [ixL, af, au, and_true]
 and_intros
 all_goals intro h
 all_goals simp only [SS, implies_true, hr, hu.Q6] at h ⊢
 ·have hb : NN (o.v 7300) (o.v 7301) (o.v 7302) r = true := by
    unfold NN; rw [<- h.1, <- h.2.1]; simp
  have h4 : J1 (o.v 7300) (o.v 7301) (o.v 7302) <= r := by
   refine Nat.le_of_not_lt fun hl => ?_; have := bJ hl; rw [hb] at this; cases this
  omega
 ·have hb : NN (o.v 7300) (o.v 7301) (o.v 7302) r = false := by
    unfold NN; rw [<- h.2.1]; simp only [Bool.and_eq_false_iff, beq_eq_false_iff_ne]; exact .inr fun e => h.1 e.symm
  have := h2 (by omega) hb
  show (r : Int) < (J1 _ _ _ : Nat); unfold J1; omega
 ·have hb : NN (o.v 7300) (o.v 7301) (o.v 7302) r = false := by
    unfold NN; simp only [Bool.and_eq_false_iff, beq_eq_false_iff_ne]; exact .inl fun e => h.1 e.symm
  have := h2 (by omega) hb
  show (r : Int) < (J1 _ _ _ : Nat); unfold J1; omega
 ·omega
theorem Ya (hu : OU o) : bo o coL := by
 simp only [coL, af, au, and_true]; intro h; simp only [SS, implies_true, hu.Q6]; omega
theorem Oq (hu : OU o) {r : Nat} (hr : o.v 2121 = .i r) : bo o UP := by
 simp only [UP, af, au, and_true]
 and_intros
 all_goals intro h
 all_goals simp only [SS, implies_true, hr, hu.ZE] at h ⊢
 have := Y8 (PD (l := o.v 7307) (r := r)) (n := (o.v 7307).T.length); unfold J1; omega
theorem Ov (hu : OU o) {r : Nat} (hr : o.v 2122 = .i r) (hent : (Ih.aU 0).ay o) : bo o W9 := by
 simp only [Ih, ssY, M7, List.map, GB, Nat.reduceAdd, u9, aB, pk, List.foldr, SS, implies_true, hu.m8] at hent; have hok := al.1 hent.1; simp only [W9, af, au, and_true]
 and_intros
 all_goals intro h
 all_goals simp only [SS, implies_true, hr] at h ⊢
 have := (cF hok (n := r) (by omega)).2.2
 omega
theorem Wd (hu : OU o) {r : Nat} (hr : o.v 2124 = .i r) (hent : (YX.aU 0).ay o) : bo o We := by
 simp only [YX, goT, wB, Xg, aB, pk, List.foldr, SS, implies_true, hu.aa3] at hent; have hok := al.1 hent.2; simp only [We, af, au, and_true]
 and_intros
 all_goals intro h
 all_goals simp only [SS, implies_true, hr, hu.m8] at h ⊢
 obtain ⟨g1, g2, g3⟩ := hok _ (eb (d := o.v 7340) (n := r) (by omega))
 exact ⟨by omega, by omega, al.2 g1⟩
theorem sC (hu : OU o) : bo o WQ /\ bo o ssL /\ bo o slL /\ bo o soL /\ bo o saL := by
 simp only [WQ, ssL, slL, soL, saL, af, au, and_true]
 and_intros
 all_goals intro h
 all_goals simp only [SS, implies_true]
theorem QL (hu : OU o) {r : Nat} (hr : o.v 2130 = .i r) (hle : (r : Int) <= ((E.uf 134 (pk [.v 7400])).den o).I) : bo o WS := by
 simp only [pk, List.foldr, SS, implies_true, hu.Ug] at hle; have hle : r <= gN (q7 (o.v 7400)) (o.v 7400).T.length := by omega
 simp only [WS, af, au, and_true]
 and_intros
 all_goals intro h
 all_goals simp only [SS, implies_true, hr, hu.Zs, hu.Ug, al, cD, Classical.not_not] at h ⊢
 ·exact ir (r := r) (by omega) (fun q => by unfold q7 at q; omega)
 ·exact ir (r := r) (by omega) (fun q => by unfold q7 at q; omega)
 ·have := uL hle (by omega) (by unfold q7; omega); omega
 ·exact qn hle (by omega)
theorem Up (hu : OU o) : bo o z6L := by
 simp only [z6L, af, au, and_true]
 and_intros
 all_goals intro h
 all_goals simp only [SS, implies_true, hu.Zs, hu.aa4, al, cD, uy, uE, Classical.not_not, GC] at h ⊢
 ·omega
 ·exact fun q => h.1 q.1
 ·exact ⟨h.1, by omega⟩
theorem XS (hu : OU o) : bo o z5L := by
 simp only [z5L, af, au, and_true]
 and_intros
 all_goals intro h
 all_goals simp only [SS, implies_true, hu.aa4, hu.JN, al, cD, uy, uE, Classical.not_not, JD] at h ⊢
 ·omega
 ·omega
 ·omega
 ·omega
 ·omega
 ·exact ⟨by omega, by omega, by omega, by omega, h.2.1, by omega⟩
 ·exact fun q => h.1 q.2.2.2.2.1
theorem K8 (hu : OU o) {r : Nat} (hr : o.v 2131 = .i r) (hle : (r : Int) <= ((E.uf 138 (pk [.v 7420])).den o).I) : bo o NK := by
 simp only [pk, List.foldr, SS, implies_true, hu.Ud] at hle; have hle : r <= gN (q5 (o.v 7420)) (o.v 7420).T.length := by omega
 simp only [NK, af, au, and_true]
 and_intros
 all_goals intro h
 all_goals simp only [SS, implies_true, hr, hu.JN, hu.Zk, hu.Ud, al, cD, Classical.not_not] at h ⊢
 ·have := uL hle (by omega) h.1; omega
 ·exact ir (r := r) (by omega) h.1
 ·exact qn hle (by omega)
theorem Qd (hu : OU o) : bo o Uu := by
 simp only [Uu, af, au, and_true]
 and_intros
 all_goals intro h
 all_goals simp only [SS, implies_true, hu.Zk, hu.OS, al, cD, uy, uE, Classical.not_not, tk] at h ⊢
 ·omega
 ·exact fun q => h.1 q.1
 ·exact ⟨h.1, by omega⟩
theorem OW (hu : OU o) {r : Nat} (hr : o.v 2133 = .i r) (hle : (r : Int) <= ((E.uf 144 (pk [.v 7430, .v 7431])).den o).I) : bo o Ye := by
 simp only [pk, List.foldr, SS, implies_true, hu.XY] at hle; have hle : r <= gN (qd (o.v 7430) (o.v 7431)) (o.v 7430).T.length := by omega
 simp only [Ye, af, au, and_true]
 and_intros
 all_goals intro h
 all_goals simp only [SS, implies_true, hr, hu.Y7, hu.XY, al, cD, Classical.not_not] at h ⊢
 ·exact ir (r := r) (by omega) (fun q => q h.1)
 ·have := uL hle (by omega) h.1; omega
 ·exact qn hle (by omega)
theorem Mq (hu : OU o) {r : Nat} (hr : o.v 2134 = .i r) (hent : (JC.aU 0).ay o) (hle : (r : Int) <= ((E.uf 146 (pk [.v 7433])).den o).I) : bo o Km := by
 simp only [JC, NS, wB, aB, pk, List.foldr, SS, implies_true, hu.Wo] at hent hle; have hle : r <= gN (qp (o.v 7433)) (o.v 7433).T.length := by omega
 simp only [Km, af, au, and_true]
 and_intros
 all_goals intro h
 all_goals simp only [SS, implies_true, hr, hu.Y7, hu.aci, hu.Wo, al, cD, Classical.not_not, List.length_take] at h ⊢
 ·refine ⟨ir (r := r) (by omega) (fun q => ?_), by omega, by omega⟩
  have q3 := q.2.2; rw [List.length_take] at q3; exact h.1 q3
 ·have := uL hle (by omega) ⟨by omega, by omega, by rw [List.length_take]; exact h.1⟩
  exact ⟨by omega, by omega, by omega⟩
 ·exact ir (r := r) (by omega) (fun q => by have := q.2.1; omega)
 ·exact ir (r := r) (by omega) (fun q => by have := q.1; omega)
 ·exact qn hle (by omega)
theorem Rs (hu : OU o) : bo o X3 := by
 simp only [X3, af, au, and_true]
 and_intros
 all_goals intro h
 all_goals simp only [SS, implies_true, hu.aci, hu.abP, al, cD, uy, uE, G6, Classical.not_not, vd] at h ⊢
 ·exact fun q => h q.1
 ·exact ⟨fun q => ⟨h, by omega⟩, fun q => by omega⟩
theorem XL (hu : OU o) {r : Nat} (hr : o.v 2135 = .i r) (hle : (r : Int) <= ((E.uf 149 (pk [.v 7436])).den o).I) : bo o shL := by
 simp only [pk, List.foldr, SS, implies_true, hu.WU] at hle; have hle : r <= gN (qs (o.v 7436)) (o.v 7436).S.size := by omega
 simp only [shL, af, au, and_true]
 and_intros
 all_goals intro h
 all_goals simp only [SS, implies_true, Pr, UM, hr, hu.aeY, hu.WU, al, cD, Classical.not_not] at h ⊢
 ·exact ir (r := r) (by omega) (fun q => q h.1)
 ·have := uL hle (by omega) (Q := qs (o.v 7436)) h.1; omega
 ·exact qn hle (by omega)
theorem X9 (hu : OU o) (hent : QH.aU.ay o) : bo o smL := by
 simp only [QH, sG, ac9, vE, pk, List.foldr, Nat.reduceAdd, SS, implies_true, hu.JN, al] at hent; obtain ⟨g0, g1, g2, g3, g4, g5⟩ := hent; simp only [smL, af, au, and_true]
 and_intros
 all_goals intro h
 all_goals simp only [SS, implies_true, hu.abP, hu.aeY, hu.Wy, al, cD, uy, uE, G6, aaS, Ka, Classical.not_not, small, Xi] at h ⊢
 all_goals and_intros
 all_goals try omega
 all_goals first
  | exact fun q => h q.1
  | exact fun q => h.1 q.2.1
  | exact fun q => h.1 q.2.2.2.2.2.2.2.2.1
  | exact fun q => by have := q.2.2.2.2.2.2.2.2.2.1; rw [h.1] at this; cases this
  | exact ⟨fun q => ⟨h.2.2.2.2.2.2.2.2.2, h.2.2.2.2.2.2.2.2.1, by omega, by omega, by omega, by omega, by omega, by omega, h.2.1, h.1, q⟩, fun q => q.2.2.2.2.2.2.2.2.2.2⟩
theorem M8 (hu : OU o) {r : Nat} (hr : o.v 2136 = .i r) (hent : (Ie.aU 0).ay o) (hle : (r : Int) <= ((E.uf 152 (pk [.v 7450])).den o).I) : bo o Lj := by
 simp only [Ie, NS, pk, List.foldr, SS, implies_true, hu.OS, hu.V8, al] at hent hle; have hle : r <= gN (YZ (o.v 7450)) (o.v 7450).T.length := by omega
 obtain ⟨f1, f2⟩ := hent; simp only [Lj, af, au, and_true]
 and_intros
 all_goals intro h
 all_goals simp only [SS, implies_true, hr, hu.JN, hu.Wy, hu.Z5, hu.V8, al, cD, Classical.not_not] at h ⊢
 ·have := uL hle (by omega) h.1
  exact ⟨by omega, by omega, f1 r (by omega)⟩
 ·exact ⟨ir (r := r) (by omega) h.1, f1 r (by omega)⟩
 ·exact qn hle (by omega)
theorem PB (hu : OU o) : bo o Xf := by
 simp only [Xf, af, au, and_true]
 and_intros
 all_goals intro h
 all_goals simp only [SS, implies_true, hu.Z5, hu.ac5, al, cD, uy, uE, G6, Classical.not_not, vX] at h ⊢
 ·exact fun q => h q.1
 ·exact ⟨fun q => ⟨h, by omega⟩, fun q => by omega⟩
end
def st0 : List SV := [iS (.il 0), .bool (.bl false), .bO, .bO, .str (.sl []), .bO]
def st1 : List SV := [iS (.il 1), .bool (.bl false), .bO, .bO, .str (.sl []), .bO]
end Go.Proofs.YtdlppkhmmclipaaGreat.sxObj
namespace Go.Proofs.YtdlppkhmmclipaaGreat.sxObj
open Go.Sx
set_option linter.unusedVariables false
set_option maxRecDepth 100000
end Go.Proofs.YtdlppkhmmclipaaGreat.sxObj
namespace Go.Proofs.YtdlppkhmmclipaaGreat.sxObj
open Go.Sx Go.RowKit Go.Proofs.YtdlppkhmmclipaaGreat
set_option linter.unusedVariables false
set_option linter.unusedSimpArgs false
set_option maxRecDepth 100000
theorem O7 {l : Dv} {k : ByteArray} {x : Row} (h : dH l.T) (hx : jg x) : dH (ez l k x) := fun r hr => by
 unfold ez at hr; rcases List.mem_append.1 hr with h1 | h1
 ·exact h r (List.mem_of_mem_take h1)
 ·rcases List.mem_cons.1 h1 with h2 | h2
  ·rw [h2]; exact hx
  ·exact h r (List.mem_of_mem_drop h2)
theorem CX {l : Dv} {k : ByteArray} {x : Row} : (ez l k x).length <= l.T.length + 1 := by
 unfold ez; rw [List.length_append, List.length_cons, List.length_take, List.length_drop]; split <;> omega
theorem Dw {l : Dv} {k : ByteArray} : (cM l k).length <= l.T.length := by
 unfold cM; split
 ·rw [List.length_append, List.length_take, List.length_drop]; omega
 ·exact Nat.le_refl _
section
variable {l m : Dv} {now ttl : Int} {only : Dv} {all : Bool}
end
section
variable {o : Env}
end
end Go.Proofs.YtdlppkhmmclipaaGreat.sxObj
namespace Go.Proofs.YtdlppkhmmclipaaGreat.sxObj
open Go.Sx
set_option linter.unusedVariables false
end Go.Proofs.YtdlppkhmmclipaaGreat.sxObj
namespace Go.Proofs.YtdlppkhmmclipaaGreat.sxObj
open Go.Sx Go.RowKit Go.Proofs.YtdlppkhmmclipaaGreat
set_option linter.unusedVariables false
set_option linter.unusedSimpArgs false
set_option maxRecDepth 100000
theorem Jq {l : Dv} (h : tk l) : dH l.T := fun r hr => by
 obtain ⟨n, hn, rfl⟩ := mem_row hr; obtain ⟨a, b, _, _, c, _⟩ := h.1 n hn; exact ⟨a, b, c.2⟩
theorem kL : dH (Dv.i 0).T := fun _ q => by cases q
structure ahP (p : Row) : Prop where
 k : jg (dD p)
 l : dH (cc p 9).T
 n : (cc p 9).T.length <= 20
 t0 : 0 <= (cc p 10).I
 t1 : (cc p 10).I <= 1099511627776
structure ahN (s : Sp) (n : Nat) : Prop where
 k : dH s.S
 l : s.S.length <= 20 * n
 t : Hi (.t s.M)
 t0 : 0 <= s.now
 t1 : s.now <= 1099511627776 * n
section
variable {o : Env}
end
def dg (r : Row) : Row := [cc r 0]
def Gq (l : List Row) : Prop := l.Pairwise fun a b => (cc a 0).S ≠ (cc b 0).S
def tlT (ks m : Dv) : List Row := ks.T.map fun k => [cc (row m (aQ .s (cc k 0) m.T).toNat) 1]
def ace (ks m : Dv) : Prop := ∀ k ∈ ks.T, 0 <= aQ .s (cc k 0) m.T
def zQ (l : Dv) (n : Nat) : Dv := cc (row (cc (row l n) 0) 0) 3
def Wa (m : List Row) (k : Dv) : Row := row (cc (row (.t m) (aQ .s k m).toNat) 1) 0
def SZ (m : List Row) (k : Dv) : Prop := 0 <= aQ .s k m
def LM (m : List Row) (now ttl : Int) (k : Dv) : Prop := 0 < ttl /\ ((cc (Wa m k) 1).B = false \/ ttl < now - (cc (Wa m k) 2).I)
noncomputable def Bg (l m : Dv) (now ttl : Int) : Nat -> List Row
 | 0 => m.T
 | n + 1 => if dec (SZ (Bg l m now ttl n) (zQ l n) /\ LM (Bg l m now ttl n) now ttl (zQ l n)) = true then nR .s (Bg l m now ttl n) (zQ l n) else Bg l m now ttl n
def ag1 (l m : Dv) (now ttl : Int) (j : Nat) : Prop := SZ (Bg l m now ttl j) (zQ l j) /\ ¬ LM (Bg l m now ttl j) now ttl (zQ l j)
noncomputable def ack (l m : Dv) (now ttl : Int) (n : Nat) : List Nat := (List.range n).filter fun j => dec (ag1 l m now ttl j)
noncomputable def Vw (l m : Dv) (now ttl : Int) : List Row := (ack l m now ttl l.T.length).map fun j => [cc (Wa (Bg l m now ttl j) (zQ l j)) 0]
def RN (m : List Row) : Prop := ∀ r ∈ m, 0 <= (cc (row (cc r 1) 0) 2).I /\ (cc (row (cc r 1) 0) 2).I <= 1125899906842624
def jN (l : Dv) (n : Nat) : Row := row (cc (row l n) 0) 0
def dc (l : Dv) (n : Nat) : Dv := .s (ju (cc (jN l n) 0).S (cc (jN l n) 1).S)
def TB (any now key : Dv) : Row := [key, .t [[any, .b true, now, key]]]
def rqT (l now : Dv) : Nat -> List Row
 | 0 => []
 | n + 1 => jM .s (rqT l now n) (TB (cc (row l n) 0) now (dc l n))
def qa (l : Dv) (j : Nat) : Prop := (cc (jN l j) 6).B = false
def BG (l : Dv) : Prop := ∀ j, j < l.T.length -> Pt (cc (jN l j) 0) (cc (jN l j) 1) (cc (jN l j) 4)
def aU (M : List Row) (o : Row) : Row := TB (.t [nine o]) (.i (atV (.t M) (kS o))) (.s (kS o))
def Xj (S M : List Row) : List Row := S.map (aU M)
noncomputable def acB (ops : Dv) : Nat -> ByteArray
 | 0 => ⟨[].toArray⟩
 | n + 1 => if (cc (row ops n) 0).I = 2 /\ (cc (row ops n) 7).B = false then (cc (row ops n) 4).S else if (cc (row ops n) 0).I = 3 /\ dec (ee (qb (cc (row ops n) 9)) (cc (row ops n) 9).T.length) = true then ⟨[].toArray⟩ else acB ops n
theorem afy {Q : Nat -> Prop} {n r : Nat} (hr : r <= gN Q n) (hl : r < n) (h : ¬ Q r) : gN Q n = r := by
 refine Nat.le_antisymm (Nat.le_of_not_lt fun cU => ?_) hr; have h2 := bJ (show r < stop (fun j => !dec (Q j)) n from cU); rw [cD.2 h] at h2; cases h2
noncomputable def abf (c : Nat) (d : Dv) : Dv :=
 match c with
 | 200 => .t ((ar d 0).T.map dg)
 | 201 => .b (dec (Gq (ar d 0).T))
 | 202 => .t (tlT (ar d 0) (ar d 1))
 | 203 => .b (dec (ace (ar d 0) (ar d 1)))
 | 204 => .t (Bg (ar d 0) (ar d 1) (ar d 2).I (ar d 3).I (ar d 4).I.toNat)
 | 205 => .t (Vw (ar d 0) (ar d 1) (ar d 2).I (ar d 3).I)
 | 206 => .i ((ack (ar d 0) (ar d 1) (ar d 2).I (ar d 3).I (ar d 4).I.toNat).length : Nat)
 | 207 => .t (Bg (ar d 0) (ar d 1) (ar d 2).I (ar d 3).I (ar d 0).T.length)
 | 208 => .b (dec (RN (ar d 0).T))
 | 210 => .t (rqT (ar d 0) (ar d 1) (ar d 2).I.toNat)
 | 211 => .b (dec (¬ ee (qa (ar d 0)) (ar d 0).T.length))
 | 212 => .i (gN (qa (ar d 0)) (ar d 0).T.length : Nat)
 | 213 => .b (dec (BG (ar d 0)))
 | 214 => .t (rqT (ar d 0) (ar d 1) (ar d 0).T.length)
 | 215 => .t (Xj (Gk (ar d 0) (ar d 1).I (ar d 2).I.toNat).S (Gk (ar d 0) (ar d 1).I (ar d 2).I.toNat).M)
 | 216 => .s (acB (ar d 0) (ar d 2).I.toNat)
 | _ => .i 0
def OV (o : Env) : Prop := ∀ c d, 200 <= c -> c < 260 -> o.uf c d = abf c d
theorem OV.az {o o' : Env} (h : OV o) (e : o'.uf = o.uf) : OV o' := fun c d h1 h2 => by rw [e]; exact h c d h1 h2
section
variable {o : Env} (h : OV o) (d : Dv)
include h
theorem OV.OR : o.uf 211 d = .b (dec (¬ ee (qa (ar d 0)) (ar d 0).T.length)) := h 211 d (by decide) (by decide)
theorem OV.Iu : o.uf 212 d = .i (gN (qa (ar d 0)) (ar d 0).T.length : Nat) := h 212 d (by decide) (by decide)
theorem OV.P9 : o.uf 213 d = .b (dec (BG (ar d 0))) := h 213 d (by decide) (by decide)
theorem OV.Qu : o.uf 200 d = .t ((ar d 0).T.map dg) := h 200 d (by decide) (by decide)
theorem OV.MZ : o.uf 201 d = .b (dec (Gq (ar d 0).T)) := h 201 d (by decide) (by decide)
end
theorem nb (r : Row) : r.headD (.i 0) = cc r 0 := by cases r <;> rfl
theorem keys_perm {l : List Row} {vis : List Dv} (ha : Gq l) (hv : vis.Pairwise fun a b => KK.str.dv a ≠ KK.str.dv b) (h1 : ∀ k ∈ vis, ∃ r ∈ l, r.headD (.i 0) = k) (h2 : ∀ r ∈ l, ∃ k ∈ vis, KK.str.dv k = KK.str.dv (r.headD (.i 0))) :
    (vis.map fun k => [k]).Perm (l.map dg) := by
 have e : l.map dg = (l.map fun r => r.headD (.i 0)).map fun k => [k] := by
  rw [List.map_map]; exact List.map_congr_left fun r _ => by show [cc r 0] = [r.headD (.i 0)]; rw [nb]
 rw [e]; refine List.Perm.map _ ((List.perm_ext_iff_of_nodup ?_ ?_).2 fun k => ⟨fun hk => ?_, fun hk => ?_⟩)
 ·exact hv.imp fun hne he => hne (by rw [he])
 ·refine List.pairwise_map.2 (ha.imp fun {a b} hne he => hne ?_); rw [nb, nb] at he; rw [he]
 ·obtain ⟨r, hr, rfl⟩ := h1 k hk; exact List.mem_map.2 ⟨r, hr, rfl⟩
 ·obtain ⟨r, hr, rfl⟩ := List.mem_map.1 hk; obtain ⟨k', hk', he⟩ := h2 r hr; obtain ⟨r', hr', rfl⟩ := h1 k' hk'
  have hs : (cc r' 0).S = (cc r 0).S := by
   rw [nb, nb] at he; have he : Value.string (cc r' 0).S = Value.string (cc r 0).S := he; injection he
  by_cases hrr : r' = r
  ·rw [<- hrr]; exact hk'
  ·exfalso; obtain ⟨i, hi, e1⟩ := List.mem_iff_getElem.1 hr; obtain ⟨j, hj, e2⟩ := List.mem_iff_getElem.1 hr'; rcases Nat.lt_trichotomy i j with hij | hij | hij
   ·have := List.pairwise_iff_getElem.1 ha i j hi hj hij; rw [e1, e2] at this; exact this hs.symm
   ·subst hij; exact hrr (e2.symm.trans e1)
   ·have := List.pairwise_iff_getElem.1 ha j i hj hi hij; rw [e1, e2] at this; exact this hs
theorem MK {l : List Row} {vis : List Dv} (hv : vis.Pairwise fun a b => KK.str.dv a ≠ KK.str.dv b) (h1 : ∀ k ∈ vis, ∃ r ∈ l, r.headD (.i 0) = k) : vis.length <= l.length := by
 induction l generalizing vis with
 | nil =>
   cases vis with
   | nil => exact Nat.le_refl _
   | cons k _ => obtain ⟨r, hr, _⟩ := h1 k (List.mem_cons_self ..); cases hr
 | cons x l ih =>
   have h3 : ∀ v : List Dv, (v.Pairwise fun a b => KK.str.dv a ≠ KK.str.dv b) -> v.length <= (v.filter fun k => dec (k ≠ x.headD (.i 0))).length + 1 := fun v hv => by
    induction v with
    | nil => exact Nat.zero_le _
    | cons a v ihv =>
      rw [List.pairwise_cons] at hv
      by_cases ha : a = x.headD (.i 0)
      ·have : v.filter (fun k => dec (k ≠ x.headD (.i 0))) = v := List.filter_eq_self.2 fun b hb => al.2 fun e => hv.1 b hb (by rw [ha, e])
       rw [List.filter_cons, this, if_neg (by rw [al]; exact fun q => q ha)]
       exact Nat.le_refl _
      ·rw [List.filter_cons, if_pos (al.2 ha)]; exact Nat.succ_le_succ (ihv hv.2)
   have h4 := ih (vis := vis.filter fun k => dec (k ≠ x.headD (.i 0))) (hv.filter _) (fun k hk => by
    obtain ⟨hk, hne⟩ := List.mem_filter.1 hk; obtain ⟨r, hr, e⟩ := h1 k hk; rcases List.mem_cons.1 hr with rfl | hr
    ·exact absurd e.symm (al.1 hne)
    ·exact ⟨r, hr, e⟩)
   have := h3 vis hv; rw [List.length_cons]; omega
def ky (r : Row) : List UInt8 := (r.headD (.i 0)).S.toList
def ow (l : List Row) : Prop := l.Pairwise fun a b => ky a ≠ ky b
theorem kq {r : Row} {k : Dv} : KQ.s.eq (r.headD (.i 0)) k = true ↔ ky r = k.S.toList := by
 unfold KQ.eq ky; exact beq_iff_eq
theorem mI {k : Dv} : ∀ {l : List Row} {i : Nat}, dP .s k l = some i -> ∃ h : i < l.length, ky l[i] = k.S.toList
 | r :: l, i, h => by
   unfold dP at h; cases hq : KQ.s.eq (r.headD (.i 0)) k with
   | true => rw [hq] at h; cases h; exact ⟨Nat.succ_pos _, kq.1 hq⟩
   | false =>
     rw [hq] at h; simp only [cond_false, Option.map_eq_some_iff] at h; obtain ⟨j, hj, rfl⟩ := h; obtain ⟨h1, h2⟩ := mI hj; exact ⟨Nat.succ_lt_succ h1, h2⟩
theorem mq {k : Dv} : ∀ {l : List Row}, dP .s k l = none -> ∀ r ∈ l, ky r ≠ k.S.toList
 | r :: l, h, x, hx => by
   unfold dP at h; cases hq : KQ.s.eq (r.headD (.i 0)) k with
   | true => rw [hq] at h; cases h
   | false =>
     rw [hq] at h; simp only [cond_false, Option.map_eq_none_iff] at h; rcases List.mem_cons.1 hx with rfl | hx
     ·exact fun e => by rw [kq.2 e] at hq; cases hq
     ·exact mq h x hx
theorem rU {l : List Row} (h : ow l) {i j : Nat} (hi : i < l.length) (hj : j < l.length) (e : ky l[i] = ky l[j]) : i = j := by
 rcases Nat.lt_trichotomy i j with hl | hl | hl
 ·exact absurd e (List.pairwise_iff_getElem.1 h i j hi hj hl)
 ·exact hl
 ·exact absurd e.symm (List.pairwise_iff_getElem.1 h j i hj hi hl)
theorem AV {l : List Row} (h : ow l) {x r : Row} : r ∈ jM .s l x ↔ r = x \/ r ∈ l /\ ky r ≠ ky x := by
 unfold jM; cases hf : dP .s (x.headD (.i 0)) l with
 | none =>
   have hn := mq hf; simp only [List.mem_append, List.mem_singleton]; exact ⟨fun q => q.elim (fun q => .inr ⟨q, hn r q⟩) .inl, fun q => q.elim .inr fun q => .inl q.1⟩
 | some i =>
   obtain ⟨hi, he⟩ := mI hf; simp only [List.mem_iff_getElem, List.length_set]; constructor
   ·rintro ⟨j, hj, rfl⟩; rw [List.getElem_set]; split
    ·exact .inl rfl
    ·rename_i hne; exact .inr ⟨⟨j, hj, rfl⟩, fun e => hne (rU h hi hj (he.trans e.symm))⟩
   ·rintro (rfl | ⟨⟨j, hj, rfl⟩, hne⟩)
    ·exact ⟨i, hi, by rw [List.getElem_set_self]⟩
    ·refine ⟨j, hj, ?_⟩; rw [List.getElem_set_ne]; intro e; subst e; exact hne he
theorem wD {l : List Row} (h : ow l) {x : Row} : ow (jM .s l x) := by
 unfold jM; cases hf : dP .s (x.headD (.i 0)) l with
 | none =>
   refine List.pairwise_append.2 ⟨h, List.pairwise_singleton _ _, fun a ha b hb => ?_⟩; rw [List.mem_singleton.1 hb]; exact mq hf a ha
 | some i =>
   obtain ⟨hi, he⟩ := mI hf; refine List.pairwise_iff_getElem.2 fun a b ha hb hab => ?_; rw [List.length_set] at ha hb; rw [List.getElem_set, List.getElem_set]; split
   ·split
    ·omega
    ·rename_i e hne; exact fun q => hne (rU h hi hb (he.trans q))
   ·split
    ·rename_i hne e; exact fun q => hne (rU h hi ha (he.trans q.symm))
    ·exact List.pairwise_iff_getElem.1 h a b ha hb hab
theorem Hp {l : List Row} (h : ow l) {k : Dv} {r : Row} : r ∈ nR .s l k ↔ r ∈ l /\ ky r ≠ k.S.toList := by
 unfold nR; cases hf : dP .s k l with
 | none => exact ⟨fun q => ⟨q, mq hf r q⟩, fun q => q.1⟩
 | some i =>
   obtain ⟨hi, he⟩ := mI hf; simp only [List.mem_eraseIdx_iff_getElem]; constructor
   ·rintro ⟨j, hj, hne, rfl⟩; exact ⟨List.getElem_mem _, fun e => hne (rU h hj hi (e.trans he.symm))⟩
   ·rintro ⟨hm, hne⟩; obtain ⟨j, hj, rfl⟩ := List.mem_iff_getElem.1 hm; exact ⟨j, hj, fun e => by subst e; exact hne he, rfl⟩
theorem CN {l : List Row} (h : ow l) {k : Dv} : ow (nR .s l k) := by
 unfold nR; split
 ·exact h.sublist (List.eraseIdx_sublist ..)
 ·exact h
theorem dX {l : List Row} {k : Dv} : 0 <= aQ .s k l ↔ ∃ r ∈ l, ky r = k.S.toList := by
 unfold aQ; cases hf : dP .s k l with
 | none => exact ⟨fun q => absurd q (by decide), fun ⟨r, hr, e⟩ => absurd e (mq hf r hr)⟩
 | some i =>
   obtain ⟨hi, he⟩ := mI hf; exact ⟨fun _ => ⟨_, List.getElem_mem hi, he⟩, fun _ => Int.natCast_nonneg i⟩
theorem Ux {l : List Row} (h : ow l) {k : Dv} {r : Row} (hr : r ∈ l) (e : ky r = k.S.toList) : row (.t l) (aQ .s k l).toNat = r := by
 unfold aQ; cases hf : dP .s k l with
 | none => exact absurd e (mq hf r hr)
 | some i =>
   obtain ⟨hi, he⟩ := mI hf; obtain ⟨j, hj, rfl⟩ := List.mem_iff_getElem.1 hr; have := rU h hj hi (e.trans he.symm); subst this; unfold row; show (l[j]?).getD [] = _; rw [List.getElem?_eq_getElem hj]; rfl
theorem Nr : ow [] := List.Pairwise.nil
theorem bt {l : List Row} (h : ow l) : Gq l := h.imp fun {a b} hne he => hne (by
 unfold ky; rw [nb, nb, he])
theorem Y1 (a b : List UInt8) : a < b \/ a = b \/ b < a := by
 by_cases h : a < b
 ·exact .inl h
 by_cases h2 : b < a
 ·exact .inr (.inr h2)
 exact .inr (.inl (List.le_antisymm (List.not_lt.1 h2) (List.not_lt.1 h)))
def Kr (l : List Row) : Prop := l.Pairwise fun a b => kl a < kl b
theorem Vf {l : List Row} (h : Kr l) {i j : Nat} (hi : i < l.length) (hj : j < l.length) (e : kl l[i] = kl l[j]) : i = j := by
 rcases Nat.lt_trichotomy i j with hl | hl | hl
 ·have := List.pairwise_iff_getElem.1 h i j hi hj hl; rw [e] at this; exact absurd this (List.lt_irrefl _)
 ·exact hl
 ·have := List.pairwise_iff_getElem.1 h j i hj hi hl; rw [e] at this; exact absurd this (List.lt_irrefl _)
theorem nr {l : List Row} {k : ByteArray} {r : Row} (hr : r ∈ l.take (iI (.t l) k)) : kl r < k.toList := by
 obtain ⟨i, hi, rfl⟩ := List.mem_iff_getElem.1 hr; rw [List.length_take] at hi; have hb : J2 (.t l) k i = false := bJ (show i < stop (J2 (.t l) k) l.length from by unfold iI at hi; simp only [Tx] at hi; omega)
 unfold J2 at hb; have e : row (.t l) i = l[i]'(by omega) := hZ (l := .t l) (show i < l.length by omega)
 rw [e, uC] at hb; rw [List.getElem_take]; simpa [kl] using hb
theorem P6 {l : List Row} {k : ByteArray} (h : iI (.t l) k < l.length) : ¬ kl (l[iI (.t l) k]'h) < k.toList := by
 have hb : J2 (.t l) k (iI (.t l) k) = true := ny (show stop (J2 (.t l) k) l.length < l.length from h); unfold J2 at hb; have e : row (.t l) (iI (.t l) k) = l[iI (.t l) k]'h := hZ (l := .t l) h; rw [e, uC] at hb; simpa [kl] using hb
theorem mK {l : List Row} {k : ByteArray} (h : hY (.t l) k = true) : ∃ hl : iI (.t l) k < l.length, kl (l[iI (.t l) k]'hl) = k.toList := by
 have hl : iI (.t l) k < l.length := BC h; rw [vk (l := .t l) hl] at h; have e : row (.t l) (iI (.t l) k) = l[iI (.t l) k]'hl := hZ (l := .t l) hl; rw [e] at h; exact ⟨hl, by simpa [kl] using h⟩
theorem YE {l : List Row} {k : ByteArray} (h : ¬ hY (.t l) k = true) (hl : iI (.t l) k < l.length) : k.toList < kl (l[iI (.t l) k]'hl) := by
 rw [vk (l := .t l) hl] at h; have e : row (.t l) (iI (.t l) k) = l[iI (.t l) k]'hl := hZ (l := .t l) hl; rw [e] at h; rcases Y1 (kl (l[iI (.t l) k]'hl)) k.toList with q | q | q
 ·exact absurd q (P6 hl)
 ·exact absurd q (by simpa [kl] using h)
 ·exact q
def J4 (l : List Row) (k : ByteArray) : Nat := if hY (.t l) k = true then iI (.t l) k + 1 else iI (.t l) k
theorem jZ {l : List Row} (h : Kr l) {k : ByteArray} {r : Row} (hr : r ∈ l.drop (J4 l k)) : k.toList < kl r := by
 obtain ⟨i, hi, rfl⟩ := List.mem_iff_getElem.1 hr; rw [List.length_drop] at hi; rw [List.getElem_drop]; unfold J4 at hi ⊢
 by_cases hq : hY (.t l) k = true
 ·obtain ⟨hl, e⟩ := mK hq; simp only [hq, if_true] at hi ⊢; rw [<- e]; exact List.pairwise_iff_getElem.1 h _ _ hl (by omega) (by omega)
 ·rw [Bool.not_eq_true] at hq; simp only [hq, Bool.false_eq_true, if_false] at hi ⊢; have cU := YE (l := l) (k := k) (by rw [hq]; simp) (by omega)
  rcases Nat.eq_zero_or_pos i with rfl | hp
  ·exact cU
  ·exact List.lt_trans cU (List.pairwise_iff_getElem.1 h _ _ (by omega) (by omega) (by omega))
theorem rR {l : List Row} {k : ByteArray} (r : Row) : r ∈ l -> r ∈ l.take (iI (.t l) k) \/ kl r = k.toList \/ r ∈ l.drop (J4 l k) := fun hr => by
 obtain ⟨i, hi, rfl⟩ := List.mem_iff_getElem.1 hr
 by_cases h1 : i < iI (.t l) k
 ·exact .inl (List.mem_take_iff_getElem.2 ⟨i, by omega, rfl⟩)
 ·by_cases h2 : i < J4 l k
  ·refine .inr (.inl ?_); unfold J4 at h2; split at h2
   ·rename_i hq; obtain ⟨hl, e⟩ := mK hq; have : i = iI (.t l) k := by omega
    subst this; exact e
   ·omega
  ·exact .inr (.inr (List.mem_drop_iff_getElem.2 ⟨i - J4 l k, by omega, by congr 1; omega⟩))
theorem lJ {a b : List UInt8} (h : a < b) : a ≠ b := fun e => by rw [e] at h; exact List.lt_irrefl _ h
theorem mJ {l : List Row} (h : Kr l) {k : ByteArray} {x r : Row} : r ∈ ez (.t l) k x ↔ r = x \/ r ∈ l /\ kl r ≠ k.toList := by
 unfold ez; rw [List.mem_append, List.mem_cons]; constructor
 ·rintro (q | q | q)
  ·exact .inr ⟨List.mem_of_mem_take q, lJ (nr q)⟩
  ·exact .inl q
  ·exact .inr ⟨List.mem_of_mem_drop q, (lJ (jZ h q)).symm⟩
 ·rintro (q | ⟨q, hne⟩)
  ·exact .inr (.inl q)
  ·rcases rR (k := k) r q with q | q | q
   ·exact .inl q
   ·exact absurd q hne
   ·exact .inr (.inr q)
theorem xR {l : List Row} {k : ByteArray} : cM (.t l) k = l.take (iI (.t l) k) ++ l.drop (J4 l k) := by
 unfold cM J4; split
 ·rfl
 ·exact (List.take_append_drop _ _).symm
theorem jr {l : List Row} (h : Kr l) {k : ByteArray} {r : Row} : r ∈ cM (.t l) k ↔ r ∈ l /\ kl r ≠ k.toList := by
 rw [xR, List.mem_append]; constructor
 ·rintro (q | q)
  ·exact ⟨List.mem_of_mem_take q, lJ (nr q)⟩
  ·exact ⟨List.mem_of_mem_drop q, (lJ (jZ h q)).symm⟩
 ·rintro ⟨q, hne⟩; rcases rR (k := k) r q with q | q | q
  ·exact .inl q
  ·exact absurd q hne
  ·exact .inr q
theorem LA {l : List Row} (h : Kr l) {k : ByteArray} {x : Row} (hx : kl x = k.toList) : Kr (ez (.t l) k x) := by
 unfold ez; refine List.pairwise_append.2 ⟨h.sublist (List.take_sublist ..), List.pairwise_cons.2 ⟨fun r hr => ?_, h.sublist (List.drop_sublist ..)⟩, fun a ha b hb => ?_⟩
 ·rw [hx]; exact jZ h hr
 ·rcases List.mem_cons.1 hb with rfl | hb
  ·rw [hx]; exact nr ha
  ·exact List.lt_trans (nr ha) (jZ h hb)
theorem DU {l : List Row} (h : Kr l) {k : ByteArray} : Kr (cM (.t l) k) := by
 rw [xR]; exact List.pairwise_append.2 ⟨h.sublist (List.take_sublist ..), h.sublist (List.drop_sublist ..), fun a ha b hb => List.lt_trans (nr ha) (jZ h hb)⟩
def afM : aJ := .cons aC (.cons .bool (.cons (.int .i64) (.cons .str .nil)))
def itC : DK := .ei 261 (.fp afM)
end Go.Proofs.YtdlppkhmmclipaaGreat.sxObj
namespace Go.Proofs.YtdlppkhmmclipaaGreat.sxObj
open Go.Sx
set_option linter.unusedVariables false
set_option maxRecDepth 100000
abbrev ov0 : E := .il 0
abbrev ov1 : E := .o2 (.mf .s) (.v 7561) (eC 0 (.v 7560) (.v 2155))
abbrev ov2 : E := .o2 .lt (.v 2155) (.o1 .ab (.v 7560))
abbrev ov3 : E := .uf 202 (eP (.v 7560) (eP (.v 7561) ov0))
def tlL : List (aa × List Ob) :=
 [(fT (.o2 .le ov0 ov1) (fT ov2 []), oT (eC 1 (.v 7561) ov1) (eC 0 ov3 (.v 2155)) []),
  (fF (.o2 .le ov0 ov1) (fT ov2 []), oO (.bl false) []),
  (fF ov2 [], oO (.o2 .le (.v 2155) (.o1 .ab ov3)) (oT (.o2 .cJ ov3 (.v 2155)) ov3 []))]
end Go.Proofs.YtdlppkhmmclipaaGreat.sxObj
namespace Go.Proofs.YtdlppkhmmclipaaGreat.sxObj
open Go.Sx Go.RowKit Go.Proofs.YtdlppkhmmclipaaGreat
set_option linter.unusedVariables false
set_option linter.unusedSimpArgs false
set_option maxRecDepth 100000
theorem MY {l : Dv} {f : Row -> Row} {n : Nat} (h : n < l.T.length) : row (.t (l.T.map f)) n = f (row l n) := by rw [iw h]; rfl
section
variable {l m : Dv} {now ttl : Int}
end
section
variable {o : Env}
end
structure Good (S : List Row) : Prop where
 i : Kr S
 g : ∀ r ∈ S, bad r = false
 e : ∀ r ∈ S, eight r = r
theorem Good.afU {S : List Row} (h : Good S) : n9 S := ⟨h.i, h.g⟩
theorem Mh : Good [] := ⟨List.Pairwise.nil, (fun _ q => by cases q), (fun _ q => by cases q)⟩
theorem I8 {S : List Row} (h : Good S) {k : ByteArray} {x : Row} (hx : kl x = k.toList) (hb : bad x = false) (he : eight x = x) : Good (ez (.t S) k x) :=
 ⟨LA h.i hx, fun r hr => by
  rcases (mJ h.i).1 hr with rfl | hr
  ·exact hb
  ·exact h.g r hr.1, fun r hr => by
  rcases (mJ h.i).1 hr with rfl | hr
  ·exact he
  ·exact h.e r hr.1⟩
theorem BT {S : List Row} (h : Good S) {k : ByteArray} : Good (cM (.t S) k) :=
 ⟨DU h.i, fun r hr => h.g r ((jr h.i).1 hr).1, fun r hr => h.e r ((jr h.i).1 hr).1⟩
theorem HO {S : List Row} (h : Kr S) {n : Nat} (hn : n < S.length) {r : Row} (hr : r ∈ S) (e : kl r = kl (row (.t S) n)) : r = row (.t S) n := by
 obtain ⟨i, hi, rfl⟩ := List.mem_iff_getElem.1 hr; rw [hZ (l := .t S) hn] at e ⊢; have := Vf h hi hn e; subst this; rfl
end Go.Proofs.YtdlppkhmmclipaaGreat.sxObj
namespace Go.Sx
set_option linter.unusedVariables false
section
variable {α : Type} {lt : α -> α -> Bool}
def par (k : Nat) : Nat := (k - 1) / 2
def swp (H : Nat -> α) (i j : Nat) : Nat -> α := fun k => if k = i then H j else if k = j then H i else H k
structure F0 (lt : α -> α -> Bool) : Prop where
 asym : ∀ a b, lt a b = true -> lt b a = false
 tr : ∀ a b c, lt b a = false -> lt c b = false -> lt c a = false
def iV (lt : α -> α -> Bool) (H : Nat -> α) (n : Nat) : Prop := ∀ k, 0 < k -> k < n -> lt (H k) (H (par k)) = false
theorem vF {H : Nat -> α} {i j : Nat} : swp H i j i = H j := if_pos rfl
theorem uD {H : Nat -> α} {i j : Nat} : swp H i j j = H i := by
 unfold swp; split
 ·rename_i e; rw [e]
 ·exact if_pos rfl
theorem o5 {H : Nat -> α} {i j k : Nat} (h1 : k ≠ i) (h2 : k ≠ j) : swp H i j k = H k := by
 unfold swp; rw [if_neg h1, if_neg h2]
theorem irr (w : F0 lt) (a : α) : lt a a = false := by
 cases h : lt a a with
 | false => rfl
 | true => rw [w.asym a a h] at h; cases h
structure sK (lt : α -> α -> Bool) (H : Nat -> α) (n j : Nat) : Prop where
 a : ∀ k, 0 < k -> k < n -> k ≠ j -> lt (H k) (H (par k)) = false
 b : 0 < j -> ∀ c, 0 < c -> c < n -> par c = j -> lt (H c) (H (par j)) = false
theorem PG (w : F0 lt) {H : Nat -> α} {n j : Nat} (h : sK lt H n j) (h0 : 0 < j) (hj : j < n) (hl : lt (H j) (H (par j)) = true) : sK lt (swp H (par j) j) n (par j) := by
 have hp : par j < j := by unfold par; omega
 constructor
 ·intro k k0 kn ki
  by_cases hk : k = j
  ·subst hk; rw [uD, vF]; exact w.asym _ _ hl
  ·rw [o5 ki hk]
   by_cases h1 : par k = par j
   ·rw [h1, vF]; have hk := h.a k k0 kn hk; rw [h1] at hk; exact w.tr _ _ _ (w.asym _ _ hl) hk
   ·by_cases h2 : par k = j
    ·rw [h2, uD]; exact h.b h0 k k0 kn h2
    ·rw [o5 h1 h2]; exact h.a k k0 kn hk
 ·intro hi c c0 cn hc; have hpp : par (par j) < par j := by unfold par at hi ⊢; omega
  have hg : swp H (par j) j (par (par j)) = H (par (par j)) := o5 (by omega) (by omega)
  rw [hg]
  by_cases hk : c = j
  ·rw [hk, uD]; exact h.a (par j) hi (by omega) (by omega)
  ·have hci : c ≠ par j := fun e => by rw [<- e] at hc; unfold par at hc; omega
   rw [o5 hci hk]; exact w.tr _ _ _ (h.a (par j) hi (by omega) (by omega)) (by have := h.a c c0 cn hk; rwa [hc] at this)
theorem Bp {H : Nat -> α} {n j : Nat} (h : sK lt H n j) (hs : j = 0 \/ lt (H j) (H (par j)) = false) : iV lt H n := fun k k0 kn => by
 by_cases hk : k = j
 ·subst hk; rcases hs with q | q
  ·omega
  ·exact q
 ·exact h.a k k0 kn hk
theorem Wr {H : Nat -> α} {n : Nat} (h : iV lt H n) : sK lt H (n + 1) n := by
 refine ⟨fun k k0 kn hk => h k k0 (by omega), fun h0 c c0 cn hc => ?_⟩
 have : c < n + 1 := cn; unfold par at hc; omega
structure cz (lt : α -> α -> Bool) (H : Nat -> α) (n i : Nat) : Prop where
 a : ∀ k, 0 < k -> k < n -> k ≠ i -> par k ≠ i -> lt (H k) (H (par k)) = false
 b : 0 < i -> ∀ c, 0 < c -> c < n -> par c = i -> lt (H c) (H (par i)) = false
def Fit (lt : α -> α -> Bool) (H : Nat -> α) (i : Nat) : Prop := 0 < i -> lt (H i) (H (par i)) = false
theorem JE (w : F0 lt) {H : Nat -> α} {n i j : Nat} (h : cz lt H n i) (hp : par j = i) (hj : j < n) (h0 : 0 < j) (hl : lt (H j) (H i) = true) (hm : ∀ c, 0 < c -> c < n -> par c = i -> lt (H c) (H j) = false) :
    cz lt (swp H i j) n j /\ Fit lt (swp H i j) j := by
 have hij : i < j := by rw [<- hp]; unfold par; omega
 refine ⟨⟨fun k k0 kn kj pk => ?_, fun _ c c0 cn hc => ?_⟩, fun _ => ?_⟩
 ·by_cases h1 : par k = i
  ·rw [h1, vF, o5 (by rw [<- h1]; unfold par; omega) kj]
   exact hm k k0 kn h1
  ·by_cases h2 : k = i
   ·subst h2; rw [vF, o5 (by unfold par; omega) pk]
    exact h.b k0 j h0 hj hp
   ·rw [o5 h2 kj, o5 h1 pk]; exact h.a k k0 kn h2 h1
 ·have hcj : j < c := by rw [<- hc]; unfold par; omega
  rw [hp, vF, o5 (by omega) (by omega)]
  have := h.a c c0 cn (by omega) (by omega)
  rwa [hc] at this
 ·rw [hp, vF, uD]; exact w.asym _ _ hl
theorem down_up {H : Nat -> α} {n i : Nat} (h : cz lt H n i) (hs : ∀ c, 0 < c -> c < n -> par c = i -> lt (H c) (H i) = false) : sK lt H n i := by
 refine ⟨fun k k0 kn hk => ?_, h.b⟩
 by_cases h1 : par k = i
 ·rw [h1]; exact hs k k0 kn h1
 ·exact h.a k k0 kn hk h1
theorem kids {c i : Nat} (h0 : 0 < c) : par c = i ↔ c = 2 * i + 1 \/ c = 2 * i + 2 := by unfold par; omega
theorem BW {H H' : Nat -> α} {n i : Nat} (w : F0 lt) (h : iV lt H n) (he : ∀ k, k ≠ i -> H' k = H k) (hi : i < n) : cz lt H' n i := by
 refine ⟨fun k k0 kn hk pk => ?_, fun h0 c c0 cn hc => ?_⟩
 ·rw [he k hk, he _ pk]; exact h k k0 kn
 ·have hci : c ≠ i := by rw [<- hc]; unfold par; omega
  have hpi : par i ≠ i := by unfold par; omega
  rw [he c hci, he _ hpi]; exact w.tr _ _ _ (h i h0 hi) (by have := h c c0 cn; rwa [hc] at this)
theorem dB {H : Nat -> α} {n i : Nat} (w : F0 lt) (h : iV lt H (n + 1)) (hi : i < n) : cz lt (swp H i n) n i := by
 have h2 : iV lt H n := fun k k0 kn => h k k0 (by omega)
 have := BW (H' := fun k => if k = i then H n else H k) w h2 (fun k hk => if_neg hk) hi
 have e : ∀ k, k < n -> swp H i n k = (if k = i then H n else H k) := fun k hk => by
  unfold swp; split
  ·rfl
  ·rw [if_neg (by omega)]
 refine ⟨fun k k0 kn hk pk => ?_, fun h0 c c0 cn hc => ?_⟩
 ·rw [e k kn, e _ (by unfold par; omega)]; exact this.a k k0 kn hk pk
 ·rw [e c cn, e _ (by unfold par; omega)]; exact this.b h0 c c0 cn hc
theorem root {H : Nat -> α} {n : Nat} (w : F0 lt) (h : iV lt H n) : ∀ k, k < n -> lt (H k) (H 0) = false := by
 intro k
 induction k using Nat.strongRecOn with
 | ind k ih =>
   intro hk; rcases Nat.eq_zero_or_pos k with q | q
   ·subst q; exact irr w _
   ·have hp : par k < k := by unfold par; omega
    exact w.tr _ _ _ (ih _ hp (by omega)) (h k q hk)
end
end Go.Sx
namespace Go.Proofs.YtdlppkhmmclipaaGreat.sxObj
open Go.Sx Go.RowKit Go.Proofs.YtdlppkhmmclipaaGreat
set_option linter.unusedVariables false
def ui : Nat := 28
def fUp : Nat := 94
def GY : Nat := 93
def tHD : Nat := 106
def Tp : Nat := 177
def lsE (a b : Nat -> E) : E := .uf 280 (pk [a 5, te a, b 5, te b])
def xD : cA where
 f := ui
 args := [Oj 7700 7701, Oj 7702 7703]
 params := [7700, 7701, 7702, 7703]
 aU := [(Fq (cE (.v 7700) (.v 7701)), true), (Fq (cE (.v 7702) (.v 7703)), true), (cE (.v 7700) (.v 7701) 6, false), (cE (.v 7702) (.v 7703) 6, false)]
 app := fun _ => true
 bp := [(.bl true, 0)]
 kind := fun _ => some 0
 out := fun _ => .bool (lsE (cE (.v 7700) (.v 7701)) (cE (.v 7702) (.v 7703)))
 X := (⟨[(gZ, iY.aS), (tM, qC.aS)], []⟩ : gW).x
 fuel := 400; np := 80
def PL : aJ := .cons aC (.cons (.int .i64) .nil)
def itH (e : E) (it : Option Nat := none) : aD := .ln .str false (.cons (.ap Tp) .nil) e it
def hdH (B len I A : E) : aR := [(500177, .ar Tp PL A), (8, .row r7 1 (aB B) (b8 gH B 0) []), (3, itH I), (1, .cells tHD [.map 3, .sl 8 1 (.il 0) len, .fn (.func uB) [] [], .fn (.func ui) [] []])]
def Ql : List E := [.v 7710, .v 7711, .v 7712, .v 7713]
def upR (r : E) : E := pk (Ql ++ [r])
def L9 : aa := [(.uf 287 (pk [.v 7710, .v 7711, .v 7712, .v 7714]), true), cP (.il 0) (.v 7713), sM (.v 7713) (.v 7714), cP (.v 7714) (.il 1000000), cP (aB (.v 7710)) (.il 1000000), cP (aB (.v 7712)) (.il 1000000)]
def YP : ak where
 f := fUp; key := 0; N := 23; r := 2200; base := 180000
 js := [4] ++ jX 5 23
 hd := fun _ => ⟨[(0, .ei 103 (.ptr 1 (.c 0))), (1, iS (.uf 283 (upR (.v 2200))))], hdH (.uf 281 (upR (.v 2200))) (.v 7714) (.v 7711) (.uf 282 (upR (.v 2200))), 20,
  cP (.il 0) (.v 2200) :: cP (.v 2200) (.uf 284 (pk Ql)) :: L9⟩
 aU := fun _ => L9
 app := fun _ => true
 mS := fun m => Nat.beq m 0
 dI := fun _ => .ret 0
 ll := fun m => Nat.beq m 0
 mf := fun _ => []
 hx := fun _ => ⟨[(0, .ei 103 (.ptr 1 (.c 0))), (1, .top)], hdH (.uf 285 (pk Ql)) (.v 7714) (.v 7711) (.uf 286 (pk Ql)), 20, []⟩
 sP := fun _ _ => .ret 0
 nS := fun _ => .exit 0
 bp := [(.bl true, 0)]
 fixed := [1, 3, 8]
 lt := .o2 .lt (.v 2200) (.uf 284 (pk Ql))
 X := (⟨[(ui, xD.aS)], []⟩ : gW).x.vP
 fuel := 800; np := 160
 params := [7710, 7711, 7712, 7713, 7714]
 wW := [(r7, gH)]
 pins := fun sl => match nth sl 1 with | some (.int _ e) => [(7713, e)] | _ => []
 PY := [(7710, 0, 0, [1]), (7712, 0, 500177, [])]
def NQ : List E := [.v 7720, .v 7721, .v 7722, .v 7723, .v 7724]
def dnR (r : E) : E := pk (NQ ++ [r])
def Kt : aa := [(.uf 287 (pk [.v 7720, .v 7721, .v 7722, .v 7725]), true), cP (.il 0) (.v 7723), cP (.v 7723) (.il 1000000), cP (.il 0) (.v 7724), cP (.v 7724) (.v 7725), cP (.v 7725) (.il 1000000), cP (aB (.v 7720)) (.il 1000000), cP (aB (.v 7722)) (.il 1000000)]
def YU : ak where
 f := GY; key := 2; N := 48; r := 2201; base := 181000
 js := [8, 9, 10] ++ jX 12 45
 hd := fun _ => ⟨[(0, .ei 103 (.ptr 1 (.c 0))), (1, iS (.v 7723)), (2, iS (.v 7724)), (6, .bool (.bl false)), (7, iS (.uf 293 (dnR (.v 2201))))], hdH (.uf 291 (dnR (.v 2201))) (.v 7725) (.v 7721) (.uf 292 (dnR (.v 2201))), 20,
  cP (.il 0) (.v 2201) :: cP (.v 2201) (.uf 294 (pk NQ)) :: Kt⟩
 aU := fun _ => Kt
 app := fun _ => true
 mS := fun m => Nat.beq m 0
 dI := fun _ => .ret 0
 ll := fun m => Nat.beq m 0
 mf := fun _ => []
 hx := fun _ => ⟨[(0, .ei 103 (.ptr 1 (.c 0))), (1, iS (.v 7723)), (2, .top), (6, .bool (.bl false)), (7, iS (.uf 297 (pk NQ)))], hdH (.uf 295 (pk NQ)) (.v 7725) (.v 7721) (.uf 296 (pk NQ)), 20, []⟩
 sP := fun _ _ => .ret 0
 nS := fun _ => .exit 0
 bp := [(.bl true, 0)]
 fixed := [1, 3, 8]
 lt := .o2 .lt (.v 2201) (.uf 294 (pk NQ))
 X := (⟨[(ui, xD.aS)], []⟩ : gW).x.vP
 fuel := 800; np := 160
 params := [7720, 7721, 7722, 7723, 7724, 7725]
 wW := [(r7, gH)]
 PY := [(7720, 0, 0, [1]), (7722, 0, 500177, [])]
set_option linter.unusedSimpArgs false
def VY (b1 k1 b2 k2 : ByteArray) : Bool := if b1.toList = b2.toList then dq k1 k2 else dq b1 b2
def lh (x y : Row) : Bool := VY (cc x 5).S (kO x) (cc y 5).S (kO y)
def mh (B : List Row) (i : Nat) : Dv := cc (row (.t B) i) 0
def dR (I k : Dv) : Int := (cc (row I (aQ .s k I.T).toNat) 1).I
def yp (A : List Row) (n : Nat) : Row := row (mh A n) 0
def pf (I : Dv) (B A : List Row) (i : Nat) : Row := yp A (dR I (mh B i)).toNat
def zu (B : List Row) (i j : Nat) : List Row := (B.set i [mh B j]).set j [mh B i]
def Dp (A : List Row) (m : Nat) (i : Nat) : List Row := A.set m [mh A m, .i i]
def NV (I : Dv) (B A : List Row) (i j : Nat) : List Row := Dp (Dp A (dR I (mh B i)).toNat i) (dR I (mh B j)).toNat j
structure HS where
 B : List Row
 A : List Row
 j : Nat
def swS (I : Dv) (s : HS) (i j : Nat) (k : Nat) : HS := ⟨zu s.B i j, NV I (zu s.B i j) s.A i j, k⟩
def Ys (I : Dv) (s : HS) (i j : Nat) : Bool := lh (pf I s.B s.A i) (pf I s.B s.A j)
def eh (B I A : Dv) (j : Nat) : Nat -> HS
 | 0 => ⟨B.T, A.T, j⟩
 | t + 1 => swS I (eh B I A j t) (par (eh B I A j t).j) (eh B I A j t).j (par (eh B I A j t).j)
def oX (I : Dv) (s : HS) : Bool := decide (0 < s.j) && Ys I s s.j (par s.j)
def Cx (B I A : Dv) (j : Nat) : Nat := stop (fun t => !oX I (eh B I A j t)) (j + 1)
def gV (I : Dv) (s : HS) (m : Nat) : Nat := if decide (2 * s.j + 2 < m) && Ys I s (2 * s.j + 2) (2 * s.j + 1) then 2 * s.j + 2 else 2 * s.j + 1
def dE (B I A : Dv) (m j : Nat) : Nat -> HS
 | 0 => ⟨B.T, A.T, j⟩
 | t + 1 => swS I (dE B I A m j t) (dE B I A m j t).j (gV I (dE B I A m j t) m) (gV I (dE B I A m j t) m)
def nw (I : Dv) (s : HS) (m : Nat) : Bool := decide (2 * s.j + 1 < m) && Ys I s (gV I s m) s.j
def ym (B I A : Dv) (m j : Nat) : Nat := stop (fun t => !nw I (dE B I A m j t) m) (m + 1)
structure Bf (B : List Row) (I : Dv) (A : List Row) (m : Nat) : Prop where
 n : m <= B.length
 k : ∀ x, x < m -> 0 <= aQ .s (mh B x) I.T
 i : ∀ x, x < m -> 0 <= dR I (mh B x)
 l : ∀ x, x < m -> (dR I (mh B x)).toNat < A.length
 b : ∀ x, x < m -> bad (pf I B A x) = false
 o : ∀ x, x < m -> jg (pf I B A x)
noncomputable def adC (c : Nat) (d : Dv) : Dv :=
 match c with
 | 280 => .b (VY (ar d 0).S (ar d 1).S (ar d 2).S (ar d 3).S)
 | 281 => .t (eh (ar d 0) (ar d 1) (ar d 2) (ar d 3).I.toNat (ar d 4).I.toNat).B
 | 282 => .t (eh (ar d 0) (ar d 1) (ar d 2) (ar d 3).I.toNat (ar d 4).I.toNat).A
 | 283 => .i (eh (ar d 0) (ar d 1) (ar d 2) (ar d 3).I.toNat (ar d 4).I.toNat).j
 | 284 => .i (Cx (ar d 0) (ar d 1) (ar d 2) (ar d 3).I.toNat : Nat)
 | 285 => .t (eh (ar d 0) (ar d 1) (ar d 2) (ar d 3).I.toNat (Cx (ar d 0) (ar d 1) (ar d 2) (ar d 3).I.toNat)).B
 | 286 => .t (eh (ar d 0) (ar d 1) (ar d 2) (ar d 3).I.toNat (Cx (ar d 0) (ar d 1) (ar d 2) (ar d 3).I.toNat)).A
 | 287 => .b (dec (Bf (ar d 0).T (ar d 1) (ar d 2).T (ar d 3).I.toNat))
 | 291 => .t (dE (ar d 0) (ar d 1) (ar d 2) (ar d 4).I.toNat (ar d 3).I.toNat (ar d 5).I.toNat).B
 | 292 => .t (dE (ar d 0) (ar d 1) (ar d 2) (ar d 4).I.toNat (ar d 3).I.toNat (ar d 5).I.toNat).A
 | 293 => .i (dE (ar d 0) (ar d 1) (ar d 2) (ar d 4).I.toNat (ar d 3).I.toNat (ar d 5).I.toNat).j
 | 294 => .i (ym (ar d 0) (ar d 1) (ar d 2) (ar d 4).I.toNat (ar d 3).I.toNat : Nat)
 | 295 => .t (dE (ar d 0) (ar d 1) (ar d 2) (ar d 4).I.toNat (ar d 3).I.toNat (ym (ar d 0) (ar d 1) (ar d 2) (ar d 4).I.toNat (ar d 3).I.toNat)).B
 | 296 => .t (dE (ar d 0) (ar d 1) (ar d 2) (ar d 4).I.toNat (ar d 3).I.toNat (ym (ar d 0) (ar d 1) (ar d 2) (ar d 4).I.toNat (ar d 3).I.toNat)).A
 | 297 => .i (dE (ar d 0) (ar d 1) (ar d 2) (ar d 4).I.toNat (ar d 3).I.toNat (ym (ar d 0) (ar d 1) (ar d 2) (ar d 4).I.toNat (ar d 3).I.toNat)).j
 | _ => .i 0
def OH (o : Env) : Prop := ∀ c d, 280 <= c -> c < 300 -> o.uf c d = adC c d
theorem OH.az {o o' : Env} (h : OH o) (e : o'.uf = o.uf) : OH o' := fun c d h1 h2 => by rw [e]; exact h c d h1 h2
theorem OH.all {o : Env} (h : OH o) :
    ((∀ d, o.uf 280 d = .b (VY (ar d 0).S (ar d 1).S (ar d 2).S (ar d 3).S)) /\
    (∀ d, o.uf 281 d = .t (eh (ar d 0) (ar d 1) (ar d 2) (ar d 3).I.toNat (ar d 4).I.toNat).B) /\
    (∀ d, o.uf 282 d = .t (eh (ar d 0) (ar d 1) (ar d 2) (ar d 3).I.toNat (ar d 4).I.toNat).A) /\
    (∀ d, o.uf 283 d = .i (eh (ar d 0) (ar d 1) (ar d 2) (ar d 3).I.toNat (ar d 4).I.toNat).j) /\
    (∀ d, o.uf 284 d = .i (Cx (ar d 0) (ar d 1) (ar d 2) (ar d 3).I.toNat : Nat)) /\
    (∀ d, o.uf 285 d = .t (eh (ar d 0) (ar d 1) (ar d 2) (ar d 3).I.toNat (Cx (ar d 0) (ar d 1) (ar d 2) (ar d 3).I.toNat)).B) /\
    (∀ d, o.uf 286 d = .t (eh (ar d 0) (ar d 1) (ar d 2) (ar d 3).I.toNat (Cx (ar d 0) (ar d 1) (ar d 2) (ar d 3).I.toNat)).A) /\
    (∀ d, o.uf 287 d = .b (dec (Bf (ar d 0).T (ar d 1) (ar d 2).T (ar d 3).I.toNat)))) /\
    ((∀ d, o.uf 291 d = .t (dE (ar d 0) (ar d 1) (ar d 2) (ar d 4).I.toNat (ar d 3).I.toNat (ar d 5).I.toNat).B) /\
    (∀ d, o.uf 292 d = .t (dE (ar d 0) (ar d 1) (ar d 2) (ar d 4).I.toNat (ar d 3).I.toNat (ar d 5).I.toNat).A) /\
    (∀ d, o.uf 293 d = .i (dE (ar d 0) (ar d 1) (ar d 2) (ar d 4).I.toNat (ar d 3).I.toNat (ar d 5).I.toNat).j) /\
    (∀ d, o.uf 294 d = .i (ym (ar d 0) (ar d 1) (ar d 2) (ar d 4).I.toNat (ar d 3).I.toNat : Nat)) /\
    (∀ d, o.uf 295 d = .t (dE (ar d 0) (ar d 1) (ar d 2) (ar d 4).I.toNat (ar d 3).I.toNat (ym (ar d 0) (ar d 1) (ar d 2) (ar d 4).I.toNat (ar d 3).I.toNat)).B) /\
    (∀ d, o.uf 296 d = .t (dE (ar d 0) (ar d 1) (ar d 2) (ar d 4).I.toNat (ar d 3).I.toNat (ym (ar d 0) (ar d 1) (ar d 2) (ar d 4).I.toNat (ar d 3).I.toNat)).A) /\
    (∀ d, o.uf 297 d = .i (dE (ar d 0) (ar d 1) (ar d 2) (ar d 4).I.toNat (ar d 3).I.toNat (ym (ar d 0) (ar d 1) (ar d 2) (ar d 4).I.toNat (ar d 3).I.toNat)).j)) :=
 ⟨⟨fun d => h 280 d (by decide) (by decide), fun d => h 281 d (by decide) (by decide), fun d => h 282 d (by decide) (by decide), fun d => h 283 d (by decide) (by decide), fun d => h 284 d (by decide) (by decide), fun d => h 285 d (by decide) (by decide), fun d => h 286 d (by decide) (by decide), fun d => h 287 d (by decide) (by decide)⟩,
  fun d => h 291 d (by decide) (by decide), fun d => h 292 d (by decide) (by decide), fun d => h 293 d (by decide) (by decide), fun d => h 294 d (by decide) (by decide), fun d => h 295 d (by decide) (by decide), fun d => h 296 d (by decide) (by decide), fun d => h 297 d (by decide) (by decide)⟩
section
variable {B A : List Row} {I k : Dv} {i j n : Nat} {x y : Row}
theorem ZF : cc (row (.t B) i) 0 = mh B i := id rfl
theorem acK : row (mh A n) 0 = yp A n := id rfl
theorem aaN : (cc (row I (aQ .s k I.T).toNat) 1).I = dR I k := id rfl
theorem ad7 : yp A (dR I (mh B i)).toNat = pf I B A i := id rfl
theorem abJ : (B.set i [mh B j]).set j [mh B i] = zu B i j := id rfl
theorem Sj : A.set n [mh A n, .i i] = Dp A n i := id rfl
theorem aak : VY (cc x 5).S (ju (cc x 0).S (cc x 1).S) (cc y 5).S (ju (cc y 0).S (cc y 1).S) = lh x y := id rfl
theorem aaE : Pt (cc x 0) (cc x 1) (cc x 4) ↔ jg x := Iff.rfl
theorem RP : (cc x 6).B = bad x := id rfl
end
theorem pU {l : List Row} {i k : Nat} {x : Row} (hi : i < l.length) : row (.t (l.set i x)) k = if k = i then x else row (.t l) k := by
 unfold row; show ((l.set i x)[k]?).getD [] = _; rw [List.getElem?_set]
 by_cases e : i = k
 ·subst e; simp [hi]
 ·rw [if_neg e, if_neg fun q => e q.symm]; rfl
theorem Me {l : List Row} {i k : Nat} {x : Dv} (hi : i < l.length) : mh (l.set i [x]) k = if k = i then x else mh l k := by
 unfold mh; rw [pU hi]; split <;> rfl
theorem fu {B : List Row} {i j : Nat} : (zu B i j).length = B.length := by unfold zu; rw [List.length_set, List.length_set]
theorem uv {B : List Row} {i j : Nat} (hi : i < B.length) (hj : j < B.length) (k : Nat) : mh (zu B i j) k = swp (mh B) i j k := by
 unfold zu; rw [Me (by rw [List.length_set]; exact hj), Me hi]
 unfold swp
 by_cases h1 : k = j
 ·subst h1; rw [if_pos rfl]
  by_cases h2 : k = i
  ·subst h2; rw [if_pos rfl]
  ·rw [if_neg h2, if_pos rfl]
 ·rw [if_neg h1]
  by_cases h2 : k = i
  ·rw [if_pos h2, if_pos h2]
  ·rw [if_neg h2, if_neg h2, if_neg h1]
theorem wj {A : List Row} {m i : Nat} : (Dp A m i).length = A.length := List.length_set ..
theorem Gy {A : List Row} {m i : Nat} (k : Nat) : yp (Dp A m i) k = yp A k := by
 unfold yp Dp
 by_cases hm : m < A.length
 ·have : mh (A.set m [mh A m, .i i]) k = mh A k := by
    show cc (row _ k) 0 = _; rw [pU hm]; split
    ·rename_i e; rw [e]; rfl
    ·rfl
  rw [this]
 ·rw [List.set_eq_of_length_le (by omega)]
theorem kc {I : Dv} {B A : List Row} {i j : Nat} : (NV I B A i j).length = A.length := by unfold NV; rw [wj, wj]
theorem Wg {I : Dv} {B A : List Row} {i j : Nat} (k : Nat) : yp (NV I B A i j) k = yp A k := by
 unfold NV; rw [Gy, Gy]
theorem NF {I : Dv} {B A : List Row} {i j : Nat} (hi : i < B.length) (hj : j < B.length) : pf I (zu B i j) (NV I (zu B i j) A i j) = swp (pf I B A) i j := by
 funext k
 unfold pf; rw [Wg, uv hi hj]; unfold swp; split
 ·rfl
 split <;> rfl
theorem xb {α : Type} {H : Nat -> α} {P : α -> Prop} {i j n : Nat} (hi : i < n) (hj : j < n) (h : ∀ k, k < n -> P (H k)) : ∀ k, k < n -> P (swp H i j k) := fun k hk => by
 unfold swp; split
 ·exact h j hj
 split
 ·exact h i hi
 ·exact h k hk
theorem iu {B : List Row} {I : Dv} {A : List Row} {n i j : Nat} (h : Bf B I A n) (hi : i < n) (hj : j < n) : Bf (zu B i j) I (NV I (zu B i j) A i j) n := by
 have hi' : i < B.length := Nat.lt_of_lt_of_le hi h.n; have hj' : j < B.length := Nat.lt_of_lt_of_le hj h.n; refine ⟨by rw [fu]; exact h.n, fun k hk => ?_, fun k hk => ?_, fun k hk => ?_, fun k hk => ?_, fun k hk => ?_⟩
 ·rw [uv hi' hj']; exact xb (P := fun x => 0 <= aQ .s x I.T) hi hj h.k k hk
 ·rw [uv hi' hj']; exact xb (P := fun x => 0 <= dR I x) hi hj h.i k hk
 ·rw [uv hi' hj', kc]; exact xb (P := fun x => (dR I x).toNat < A.length) hi hj h.l k hk
 ·rw [NF hi' hj']; exact xb (P := fun x => bad x = false) hi hj h.b k hk
 ·rw [NF hi' hj']; exact xb (P := fun x => jg x) hi hj h.o k hk
section
variable {B I A : Dv} {n j : Nat}
theorem Kw {j : Nat} (h : 0 < j) : par j < j := by unfold par; omega
theorem kQ {j : Nat} : par j <= j := by unfold par; omega
theorem TS (t : Nat) : (eh B I A j t).j <= j := by
 induction t with
 | zero => exact Nat.le_refl _
 | succ t ih => exact Nat.le_trans kQ ih
theorem acA (h : Bf B.T I A.T n) (hj : j < n) (t : Nat) : Bf (eh B I A j t).B I (eh B I A j t).A n := by
 induction t with
 | zero => exact h
 | succ t ih =>
   have := TS (B := B) (I := I) (A := A) (j := j) t; have := kQ (j := (eh B I A j t).j); exact iu ih (by omega) (by omega)
theorem Uc (t : Nat) : (eh B I A j t).B.length = B.T.length /\ (eh B I A j t).A.length = A.T.length := by
 induction t with
 | zero => exact ⟨rfl, rfl⟩
 | succ t ih => exact ⟨fu.trans ih.1, kc.trans ih.2⟩
theorem up_down (t : Nat) (h : ∀ s, s < t -> 0 < (eh B I A j s).j) : (eh B I A j t).j + t <= j := by
 induction t with
 | zero => exact Nat.le_refl _
 | succ t ih =>
   have ih := ih fun s hs => h s (by omega)
   have h0 := h t (Nat.lt_succ_self t); have : (eh B I A j (t + 1)).j = par (eh B I A j t).j := rfl; have := Kw h0; omega
end
section
variable {B I A : Dv} {n m j : Nat}
theorem Kh {s : HS} : s.j < gV I s m := by unfold gV; split <;> omega
theorem HQ {s : HS} (h : 2 * s.j + 1 < m) : gV I s m < m := by
 unfold gV; split
 ·rename_i q; rw [Bool.and_eq_true, decide_eq_true_eq] at q; exact q.1
 ·exact h
theorem adg {s : HS} (h : 2 * s.j + 2 < m) (hl : lh (pf I s.B s.A (2 * s.j + 2)) (pf I s.B s.A (2 * s.j + 1)) = true) : gV I s m = 2 * s.j + 2 := by
 unfold gV Ys; rw [decide_eq_true h, hl]; rfl
theorem aam {s : HS} (hl : lh (pf I s.B s.A (2 * s.j + 2)) (pf I s.B s.A (2 * s.j + 1)) = false) : gV I s m = 2 * s.j + 1 := by
 unfold gV Ys; rw [hl, Bool.and_false]; rfl
theorem adB {s : HS} (h : ¬ 2 * s.j + 2 < m) : gV I s m = 2 * s.j + 1 := by
 unfold gV; rw [decide_eq_false h]; rfl
theorem tj {s : HS} {c : Nat} {b : Bool} (hk : gV I s m = c) (h : 2 * s.j + 1 < m) (hl : lh (pf I s.B s.A c) (pf I s.B s.A s.j) = b) : nw I s m = b := by
 unfold nw Ys; rw [hk, decide_eq_true h, hl, Bool.true_and]
theorem ZI {s : HS} (h : ¬ 2 * s.j + 1 < m) : nw I s m = false := by
 unfold nw; rw [decide_eq_false h, Bool.false_and]
theorem Nh (t : Nat) : j + t <= (dE B I A m j t).j := by
 induction t with
 | zero => exact Nat.le_refl _
 | succ t ih =>
   have := Kh (I := I) (m := m) (s := dE B I A m j t); have e : (dE B I A m j (t + 1)).j = gV I (dE B I A m j t) m := rfl; omega
theorem Eu (t : Nat) : (dE B I A m j t).B.length = B.T.length /\ (dE B I A m j t).A.length = A.T.length := by
 induction t with
 | zero => exact ⟨rfl, rfl⟩
 | succ t ih => exact ⟨fu.trans ih.1, kc.trans ih.2⟩
theorem Ek {t : Nat} (h : t < ym B I A m j) : nw I (dE B I A m j t) m = true := by
 have h3 := bJ (show t < stop (fun t => !nw I (dE B I A m j t) m) (m + 1) from h); simpa using h3
theorem abn {r : Nat} (h : r <= ym B I A m j) (hg : nw I (dE B I A m j r) m = true) : r < ym B I A m j := by
 have h1 := Nh (B := B) (I := I) (A := A) (m := m) (j := j) r
 have h2 : 2 * (dE B I A m j r).j + 1 < m := by
  unfold nw at hg; rw [Bool.and_eq_true, decide_eq_true_eq] at hg; exact hg.1
 exact r6 h (by omega) (by rw [hg]; rfl)
theorem GG {P : Nat -> Bool} {n r : Nat} (h : r <= stop P n) (hr : P r = true \/ n <= r) : stop P n = r := by
 refine Nat.le_antisymm (Nat.le_of_not_lt fun hl => ?_) h; rcases hr with q | q
 ·rw [bJ hl] at q; cases q
 ·have := @ke P n; omega
theorem Xc {r : Nat} (h : r <= ym B I A m j) (hg : nw I (dE B I A m j r) m = false) : ym B I A m j = r :=
 GG h (.inl (by rw [hg]; rfl))
theorem Ls {s : HS} (h : nw I s m = true) : 2 * s.j + 1 < m := by
 unfold nw at h; rw [Bool.and_eq_true, decide_eq_true_eq] at h; exact h.1
theorem ach (h : Bf B.T I A.T n) (hm : m <= n) (t : Nat) (ht : t <= ym B I A m j) : Bf (dE B I A m j t).B I (dE B I A m j t).A n := by
 induction t with
 | zero => exact h
 | succ t ih =>
   have hg := Ls (Ek (Nat.lt_of_succ_le ht)); have := HQ (I := I) hg; exact iu (ih (by omega)) (by omega) (by omega)
theorem agU (t : Nat) (ht : t <= ym B I A m j) : (dE B I A m j t).j = j \/ (dE B I A m j t).j < m := by
 cases t with
 | zero => exact .inl rfl
 | succ t => exact .inr (HQ (I := I) (Ls (Ek (Nat.lt_of_succ_le ht))))
end
theorem pM {x y : Row} : lh x y = true ↔ (cc x 5).S.toList < (cc y 5).S.toList \/ ((cc x 5).S.toList = (cc y 5).S.toList /\ (kO x).toList < (kO y).toList) := by
 unfold lh VY; split
 ·rename_i h; rw [uC, decide_eq_true_eq]; exact ⟨fun q => .inr ⟨h, q⟩, fun q => q.elim (fun q => absurd h (lJ q)) (·.2)⟩
 ·rename_i h; rw [uC, decide_eq_true_eq]; exact ⟨.inl, fun q => q.elim id fun q => absurd q.1 h⟩
theorem j5 : F0 lh := by
 constructor
 ·intro a b h; rw [<- Bool.not_eq_true, pM]; rw [pM] at h; rintro (q | ⟨q1, q2⟩)
  ·rcases h with h | ⟨h1, h2⟩
   ·exact List.lt_asymm h q
   ·rw [h1] at q; exact List.lt_irrefl _ q
  ·rcases h with h | ⟨h1, h2⟩
   ·rw [q1] at h; exact List.lt_irrefl _ h
   ·exact List.lt_asymm h2 q2
 ·intro a b c h1 h2; rw [<- Bool.not_eq_true, pM] at h1 h2 ⊢; intro q; rcases Y1 (cc b 5).S.toList (cc a 5).S.toList with p | p | p
  ·exact h1 (.inl p)
  ·rcases q with q | ⟨q, r⟩
   ·rw [<- p] at q; exact h2 (.inl q)
   ·rcases Y1 (kO b).toList (kO a).toList with s | s | s
    ·exact h1 (.inr ⟨p, s⟩)
    ·refine h2 (.inr ⟨by rw [p, q], ?_⟩)
     rw [s]; exact r
    ·exact h2 (.inr ⟨by rw [p, q], List.lt_trans r s⟩)
  ·rcases q with q | ⟨q, r⟩
   ·exact h2 (.inl (List.lt_trans q p))
   ·rw [<- q] at p; exact h2 (.inl p)
structure HM where
 B : List Row
 n : Nat
 I : List Row
 A : List Row
def HM.key (h : HM) : Nat -> Dv := mh h.B
def HM.slot (h : HM) (i : Nat) : Nat := (dR (.t h.I) (mh h.B i)).toNat
def HM.ob (h : HM) : Nat -> Row := pf (.t h.I) h.B h.A
def HM.mem (h : HM) (x : Row) : Prop := ∃ i, i < h.n /\ h.ob i = x
structure eG (h : HM) : Prop where
 dK : Bf h.B (.t h.I) h.A h.n
 d : ∀ i j, i < h.n -> j < h.n -> (h.key i).S.toList = (h.key j).S.toList -> i = j
 u : ow h.I
 r : ∀ r ∈ h.I, ∃ i, i < h.n /\ (h.key i).S.toList = ky r
 x : ∀ i j, i < h.n -> j < h.n -> h.slot i = h.slot j -> i = j
 p : ∀ i, i < h.n -> cc (row (.t h.A) (h.slot i)) 1 = .i (i : Int)
 k : ∀ i, i < h.n -> (kO (h.ob i)).toList = (h.key i).S.toList
def bn (h : HM) (i j : Nat) : HM := ⟨zu h.B i j, h.n, h.I, NV (.t h.I) (zu h.B i j) h.A i j⟩
theorem Bs {h : HM} {i j : Nat} (hi : i < h.B.length) (hj : j < h.B.length) : (bn h i j).key = swp h.key i j := funext (uv hi hj)
theorem jv {h : HM} {i j : Nat} (hi : i < h.B.length) (hj : j < h.B.length) : (bn h i j).ob = swp h.ob i j := NF hi hj
theorem QZ {h : HM} {i j : Nat} (hi : i < h.B.length) (hj : j < h.B.length) : (bn h i j).slot = swp h.slot i j := by
 funext k
 show (dR (.t h.I) (mh (zu h.B i j) k)).toNat = _; rw [uv hi hj]; unfold swp; split
 ·rfl
 split <;> rfl
def B3 (i j k : Nat) : Nat := if k = i then j else if k = j then i else k
theorem jb {α : Type} {H : Nat -> α} {i j k : Nat} : swp H i j k = H (B3 i j k) := by
 unfold swp B3; split
 ·rfl
 split <;> rfl
theorem nC {i j k n : Nat} (hi : i < n) (hj : j < n) (hk : k < n) : B3 i j k < n := by
 unfold B3; split
 ·exact hj
 split
 ·exact hi
 ·exact hk
theorem vn {i j k : Nat} : B3 i j (B3 i j k) = k := by
 unfold B3
 by_cases h1 : k = i
 ·subst h1; rw [if_pos rfl]
  by_cases h2 : j = k
  ·rw [if_pos h2, h2]
  ·rw [if_neg h2, if_pos rfl]
 ·rw [if_neg h1]
  by_cases h2 : k = j
  ·rw [if_pos h2, if_pos rfl, h2]
  ·rw [if_neg h2, if_neg h1, if_neg h2]
theorem He {i j a b : Nat} (h : B3 i j a = B3 i j b) : a = b := by
 rw [<- vn (i := i) (j := j) (k := a), h, vn]
theorem LO {A : List Row} {m i k : Nat} (hm : m < A.length) : cc (row (.t (Dp A m i)) k) 1 = if k = m then .i (i : Int) else cc (row (.t A) k) 1 := by
 unfold Dp; rw [pU hm]; split <;> rfl
theorem BO {h : HM} {i j : Nat} (hi : i < h.n) (hj : j < h.n) (hn : h.n <= h.B.length) (x : Row) : (bn h i j).mem x ↔ h.mem x := by
 have e := jv (h := h) (Nat.lt_of_lt_of_le hi hn) (Nat.lt_of_lt_of_le hj hn); constructor
 ·rintro ⟨k, hk, q⟩; rw [e, jb] at q; exact ⟨_, nC hi hj hk, q⟩
 ·rintro ⟨k, hk, q⟩; refine ⟨B3 i j k, nC hi hj hk, ?_⟩; rw [e, jb, vn]; exact q
theorem fi {h : HM} {i j : Nat} (c : eG h) (hi : i < h.n) (hj : j < h.n) : eG (bn h i j) := by
 have hn := c.dK.n; have hi' := Nat.lt_of_lt_of_le hi hn; have hj' := Nat.lt_of_lt_of_le hj hn; have ek := Bs hi' hj'; have es := QZ hi' hj'; have eo := jv hi' hj'; refine ⟨iu c.dK hi hj, fun a b ha hb e => ?_, c.u, fun r hr => ?_, fun a b ha hb e => ?_, fun a ha => ?_, fun a ha => ?_⟩
 ·rw [ek, jb, jb] at e; exact He (c.d _ _ (nC hi hj ha) (nC hi hj hb) e)
 ·obtain ⟨a, ha, e⟩ := c.r r hr; refine ⟨B3 i j a, nC hi hj ha, ?_⟩; rw [ek, jb, vn]; exact e
 ·rw [es, jb, jb] at e; exact He (c.x _ _ (nC hi hj ha) (nC hi hj hb) e)
 ·have si : (dR (.t h.I) (mh (zu h.B i j) i)).toNat = h.slot j := by
    have := congrFun es i; rw [vF] at this; exact this
  have sj : (dR (.t h.I) (mh (zu h.B i j) j)).toNat = h.slot i := by
   have := congrFun es j; rw [uD] at this; exact this
  have l1 : h.slot j < h.A.length := c.dK.l j hj; have l2 : h.slot i < h.A.length := c.dK.l i hi; show cc (row (.t (NV (.t h.I) (zu h.B i j) h.A i j)) ((bn h i j).slot a)) 1 = .i (a : Int); unfold NV; rw [si, sj, LO (by rw [wj]; exact l2), LO l1, es, jb]
  by_cases h1 : a = j
  ·subst h1; rw [if_pos]; have : B3 i a a = i := by unfold B3; split <;> simp_all
   rw [this]
  ·rw [if_neg (fun q => h1 (by
     have q := c.x _ _ (nC hi hj ha) hi q; unfold B3 at q; split at q
     ·rename_i e; rw [e, q]
     ·rename_i e; exact absurd q e))]
   by_cases h2 : a = i
   ·subst h2; rw [if_pos]; have : B3 a j a = j := by unfold B3; rw [if_pos rfl]
    rw [this]
   ·have e : B3 i j a = a := by unfold B3; rw [if_neg h2, if_neg h1]
    rw [e, if_neg fun q => h1 (c.x _ _ ha hj q)]; exact c.p a ha
 ·rw [ek, eo, jb, jb]; exact c.k _ (nC hi hj ha)
def oz (h : HM) (s : HS) : HM := ⟨s.B, h.n, h.I, s.A⟩
def qv (h : HM) (j : Nat) (t : Nat) : HS := eh (.t h.B) (.t h.I) (.t h.A) j t
def JW (h : HM) (j : Nat) : Nat := Cx (.t h.B) (.t h.I) (.t h.A) j
def p5 (h : HM) (j : Nat) : HM := oz h (qv h j (JW h j))
def pF (h : HM) (m j : Nat) (t : Nat) : HS := dE (.t h.B) (.t h.I) (.t h.A) m j t
def zj (h : HM) (m j : Nat) : Nat := ym (.t h.B) (.t h.I) (.t h.A) m j
def cR (h : HM) (m j : Nat) : HM := oz h (pF h m j (zj h m j))
def B4 (h : HM) (m j : Nat) : Nat := (pF h m j (zj h m j)).j
def gB (h : HM) (m j : Nat) : HM := if j < B4 h m j then cR h m j else p5 (cR h m j) j
theorem MN {h : HM} {j t : Nat} (ht : t < JW h j) : oX (.t h.I) (qv h j t) = true := by
 have h3 := bJ (show t < stop (fun t => !oX (.t h.I) (eh (.t h.B) (.t h.I) (.t h.A) j t)) (j + 1) from ht); have h4 : (!oX (.t h.I) (qv h j t)) = false := h3; simpa using h4
theorem UT {h : HM} {j : Nat} (hj : ∀ t, t < JW h j -> 0 < (qv h j t).j) : oX (.t h.I) (qv h j (JW h j)) = false := by
 have hd := up_down (B := .t h.B) (I := .t h.I) (A := .t h.A) (j := j) (JW h j) hj
 have h3 := ny (show stop (fun t => !oX (.t h.I) (eh (.t h.B) (.t h.I) (.t h.A) j t)) (j + 1) < j + 1 from by
  show JW h j < j + 1; have : (eh (.t h.B) (.t h.I) (.t h.A) j (JW h j)).j + JW h j <= j := hd
  omega)
 have h4 : (!oX (.t h.I) (qv h j (JW h j))) = true := h3; simpa using h4
structure wX (h0 h : HM) (j : Nat) : Prop where
 c : eG h
 n : h.n = h0.n
 i : h.I = h0.I
 l : h.A.length = h0.A.length
 b : h.B.length = h0.B.length
 m : ∀ x, h.mem x ↔ h0.mem x
 j : j < h.n
theorem wX.sw {h0 h : HM} {j i k : Nat} (u : wX h0 h j) (hi : i < h.n) (hk : k < h.n) : eG (bn h i k) /\ ∀ x, (bn h i k).mem x ↔ h0.mem x :=
 ⟨fi u.c hi hk, fun x => (BO hi hk u.c.dK.n x).trans (u.m x)⟩
theorem G5 {h : HM} {j m : Nat} (c : eG h) (hj : j < m) (hm : m <= h.n) (hp : sK lh h.ob m j) : ∀ t, t <= JW h j -> wX h (oz h (qv h j t)) (qv h j t).j /\ sK lh (oz h (qv h j t)).ob m (qv h j t).j /\ (qv h j t).j < m
 | 0, _ => ⟨⟨c, rfl, rfl, rfl, rfl, fun x => Iff.rfl, Nat.lt_of_lt_of_le hj hm⟩, hp, hj⟩
 | t + 1, ht => by
   obtain ⟨ih, ip, il⟩ := G5 c hj hm hp t (by omega)
   have hg := MN (h := h) (j := j) (t := t) (by omega)
   unfold oX at hg; rw [Bool.and_eq_true, decide_eq_true_eq] at hg; obtain ⟨g0, g1⟩ := hg; have hpj : par (qv h j t).j < m := Nat.lt_of_le_of_lt kQ il; have hbn := ih.c.dK.n; have e : oz h (qv h j (t + 1)) = bn (oz h (qv h j t)) (par (qv h j t).j) (qv h j t).j := rfl; have ej : (qv h j (t + 1)).j = par (qv h j t).j := rfl; have hn1 : par (qv h j t).j < (oz h (qv h j t)).n := Nat.lt_of_lt_of_le hpj hm; have hn2 : (qv h j t).j < (oz h (qv h j t)).n := Nat.lt_of_lt_of_le il hm; obtain ⟨s1, s2⟩ := ih.sw hn1 hn2; have eo := jv (h := oz h (qv h j t)) (Nat.lt_of_lt_of_le hn1 hbn) (Nat.lt_of_lt_of_le hn2 hbn); rw [e, ej]; refine ⟨⟨s1, rfl, rfl, ?_, ?_, s2, hn1⟩, ?_, hpj⟩
   ·exact kc.trans ih.l
   ·exact fu.trans ih.b
   ·rw [eo]; exact PG j5 ip g0 il g1
theorem Br {h : HM} {j m : Nat} (c : eG h) (hj : j < m) (hm : m <= h.n) (hp : sK lh h.ob m j) : wX h (p5 h j) (qv h j (JW h j)).j /\ iV lh (p5 h j).ob m := by
 obtain ⟨a, b, d⟩ := G5 c hj hm hp (JW h j) (Nat.le_refl _); refine ⟨a, Bp b ?_⟩
 have hg := UT (h := h) (j := j) fun t ht => by
  have := MN ht; unfold oX at this; rw [Bool.and_eq_true, decide_eq_true_eq] at this; exact this.1
 unfold oX at hg; rcases Nat.eq_zero_or_pos (qv h j (JW h j)).j with q | q
 ·exact .inl q
 ·rw [decide_eq_true q, Bool.true_and] at hg; exact .inr hg
theorem Gu {h : HM} {m j t : Nat} (ht : t < zj h m j) : nw (.t h.I) (pF h m j t) m = true := Ek ht
theorem YN {h : HM} {m j : Nat} : nw (.t h.I) (pF h m j (zj h m j)) m = false := by
 have hu := Nh (B := .t h.B) (I := .t h.I) (A := .t h.A) (m := m) (j := j) (zj h m j); have hu : j + zj h m j <= (pF h m j (zj h m j)).j := hu; cases hq : nw (.t h.I) (pF h m j (zj h m j)) m with
 | false => rfl
 | true =>
   exfalso; have h2 := Ls hq
   have h3 := ny (show stop (fun t => !nw (.t h.I) (dE (.t h.B) (.t h.I) (.t h.A) m j t) m) (m + 1) < m + 1 from by
    show zj h m j < m + 1
    omega)
   have h4 : (!nw (.t h.I) (pF h m j (zj h m j)) m) = true := h3; rw [hq] at h4; cases h4
theorem HN {I : Dv} {s : HS} {m : Nat} : ∀ c, 0 < c -> c < m -> par c = s.j -> lh (pf I s.B s.A c) (pf I s.B s.A (gV I s m)) = false := fun c c0 cm hc => by
 rcases (kids c0).1 hc with e | e
 ·subst e; unfold gV; split
  ·rename_i q; rw [Bool.and_eq_true] at q; exact j5.asym _ _ q.2
  ·exact irr j5 _
 ·subst e; unfold gV; split
  ·exact irr j5 _
  ·rename_i q; rw [decide_eq_true cm, Bool.true_and, Bool.not_eq_true] at q; exact q
theorem Hb {h : HM} {j m : Nat} (c : eG h) (hj : j < h.n) (hm : m <= h.n) (hp : cz lh h.ob m j) : ∀ t, t <= zj h m j -> wX h (oz h (pF h m j t)) (pF h m j t).j /\ cz lh (oz h (pF h m j t)).ob m (pF h m j t).j /\ (0 < t -> Fit lh (oz h (pF h m j t)).ob (pF h m j t).j)
 | 0, _ => ⟨⟨c, rfl, rfl, rfl, rfl, fun x => Iff.rfl, hj⟩, hp, fun q => absurd q (Nat.lt_irrefl _)⟩
 | t + 1, ht => by
   obtain ⟨ih, ip, il⟩ := Hb c hj hm hp t (by omega)
   have hg := Gu (h := h) (m := m) (j := j) (t := t) (by omega)
   have hgm := Ls hg; unfold nw at hg; rw [Bool.and_eq_true] at hg; have hk := HQ (I := .t h.I) hgm; have hbn := ih.c.dK.n; have e : oz h (pF h m j (t + 1)) = bn (oz h (pF h m j t)) (pF h m j t).j (gV (.t h.I) (pF h m j t) m) := rfl; have ej : (pF h m j (t + 1)).j = gV (.t h.I) (pF h m j t) m := rfl; have hn1 : (pF h m j t).j < (oz h (pF h m j t)).n := ih.j; have hn2 : gV (.t h.I) (pF h m j t) m < (oz h (pF h m j t)).n := Nat.lt_of_lt_of_le hk hm; obtain ⟨s1, s2⟩ := ih.sw hn1 hn2; have eo := jv (h := oz h (pF h m j t)) (Nat.lt_of_lt_of_le hn1 hbn) (Nat.lt_of_lt_of_le hn2 hbn)
   have hpk : par (gV (.t h.I) (pF h m j t) m) = (pF h m j t).j := by
    unfold gV par; split <;> omega
   have h0 : 0 < gV (.t h.I) (pF h m j t) m := Nat.lt_of_le_of_lt (Nat.zero_le _) Kh; have st := JE j5 ip hpk hk h0 hg.2 HN; rw [e, ej]; refine ⟨⟨s1, rfl, rfl, ?_, ?_, s2, hn2⟩, ?_, fun _ => ?_⟩
   ·exact kc.trans ih.l
   ·exact fu.trans ih.b
   ·rw [eo]; exact st.1
   ·rw [eo]; exact st.2
theorem iM {h : HM} {j m : Nat} (c : eG h) (hj : j < h.n) (hm : m <= h.n) (hp : cz lh h.ob m j) :
    wX h (cR h m j) (B4 h m j) /\ sK lh (cR h m j).ob m (B4 h m j) /\ (j < B4 h m j -> Fit lh (cR h m j).ob (B4 h m j)) /\ (¬ j < B4 h m j -> B4 h m j = j) := by
 obtain ⟨a, b, d⟩ := Hb c hj hm hp (zj h m j) (Nat.le_refl _); have he := YN (h := h) (m := m) (j := j); have hup : j + zj h m j <= B4 h m j := Nh (B := .t h.B) (I := .t h.I) (A := .t h.A) (m := m) (j := j) (zj h m j); refine ⟨a, down_up b fun k k0 km hk => ?_, fun q => ?_, fun q => by omega⟩
 ·unfold nw at he
  by_cases h2 : 2 * (pF h m j (zj h m j)).j + 1 < m
  ·rw [decide_eq_true h2, Bool.true_and] at he; exact j5.tr _ _ _ he (HN k k0 km hk)
  ·have := (kids k0).1 hk; show lh _ _ = false; exfalso; have h3 : B4 h m j = (pF h m j (zj h m j)).j := rfl; omega
 ·refine d ?_; rcases Nat.eq_zero_or_pos (zj h m j) with q2 | q2
  ·exfalso
   have : B4 h m j = j := by
    unfold B4; rw [q2]; rfl
   omega
  ·exact q2
theorem Et {h : HM} {j m : Nat} (c : eG h) (hj : j < m) (hm : m <= h.n) (hp : cz lh h.ob m j) : eG (gB h m j) /\ iV lh (gB h m j).ob m /\ (gB h m j).n = h.n /\ (gB h m j).I = h.I /\ (gB h m j).A.length = h.A.length /\ (gB h m j).B.length = h.B.length /\ ∀ x, (gB h m j).mem x ↔ h.mem x := by
 obtain ⟨u, p, f, g⟩ := iM c (Nat.lt_of_lt_of_le hj hm) hm hp; unfold gB; split
 ·rename_i hl; refine ⟨u.c, Bp p ?_, u.n, u.i, u.l, u.b, u.m⟩; rcases Nat.eq_zero_or_pos (B4 h m j) with q | q
  ·exact .inl q
  ·exact .inr (f hl q)
 ·rename_i hl; have e := g hl; rw [e] at p; have hn : (cR h m j).n = h.n := u.n; obtain ⟨u2, hh⟩ := Br u.c hj (by rw [hn]; exact hm) p
  exact ⟨u2.c, hh, u2.n.trans u.n, u2.i.trans u.i, u2.l.trans u.l, u2.b.trans u.b, fun x => (u2.m x).trans (u.m x)⟩
theorem yo {I : List Row} (u : ow I) {r : Row} (hr : r ∈ I) {k : Dv} (e : ky r = k.S.toList) : dR (.t I) k = (cc r 1).I := by
 unfold dR; show (cc (row (.t I) (aQ .s k I).toNat) 1).I = _; rw [Ux u hr e]
theorem Ve {I : List Row} (u : ow I) {x : Row} {k : Dv} (hh : 0 <= aQ .s k I) (hne : k.S.toList ≠ ky x) : 0 <= aQ .s k (jM .s I x) /\ dR (.t (jM .s I x)) k = dR (.t I) k := by
 obtain ⟨r, hr, e⟩ := dX.1 hh; have hr2 : r ∈ jM .s I x := (AV u).2 (.inr ⟨hr, by rw [e]; exact hne⟩)
 exact ⟨dX.2 ⟨r, hr2, e⟩, by rw [yo (wD u) hr2 e, yo u hr e]⟩
theorem U5 {I : List Row} (u : ow I) {k v : Dv} : 0 <= aQ .s k (jM .s I [k, v]) /\ dR (.t (jM .s I [k, v])) k = v.I := by
 have hr2 : [k, v] ∈ jM .s I [k, v] := (AV u).2 (.inl rfl); exact ⟨dX.2 ⟨_, hr2, rfl⟩, yo (wD u) hr2 rfl⟩
theorem WD {I : List Row} (u : ow I) {k d : Dv} (hh : 0 <= aQ .s k I) (hne : k.S.toList ≠ d.S.toList) : 0 <= aQ .s k (nR .s I d) /\ dR (.t (nR .s I d)) k = dR (.t I) k := by
 obtain ⟨r, hr, e⟩ := dX.1 hh; have hr2 : r ∈ nR .s I d := (Hp u).2 ⟨hr, by rw [e]; exact hne⟩
 exact ⟨dX.2 ⟨r, hr2, e⟩, by rw [yo (CN u) hr2 e, yo u hr e]⟩
theorem xn {l : List Row} {x : Row} {k : Nat} (h : k < l.length) : row (.t (l ++ [x])) k = row (.t l) k := by
 unfold row; show ((l ++ [x])[k]?).getD [] = _; rw [List.getElem?_append_left h]; rfl
theorem xj {l : List Row} {x : Row} : row (.t (l ++ [x])) l.length = x := by
 unfold row; show ((l ++ [x])[l.length]?).getD [] = _; rw [List.getElem?_append_right (Nat.le_refl _), Nat.sub_self]; rfl
theorem KC {l : List Row} {n k : Nat} (h : k < n) : row (.t (l.take n)) k = row (.t l) k := by
 unfold row; show ((l.take n)[k]?).getD [] = _; rw [List.getElem?_take_of_lt h]; rfl
structure fZ (h : HM) : Prop where
 c : eG h
 hp : iV lh h.ob h.n
def bX (h : HM) (k any : Dv) : HM := ⟨h.B.take h.n ++ [[k]], h.n + 1, jM .s h.I [k, .i h.A.length], h.A ++ [[any, .i h.n]]⟩
def jG (h : HM) (k any : Dv) : HM := p5 (bX h k any) h.n
structure jf (any k : Dv) : Prop where
 b : bad (row any 0) = false
 o : jg (row any 0)
 k : (kO (row any 0)).toList = k.S.toList
section
variable {h : HM} {k any : Dv}
theorem Hs (hn : h.n <= h.B.length) : (∀ i, i < h.n -> (bX h k any).key i = h.key i) /\ (bX h k any).key h.n = k := by
 have e : (h.B.take h.n).length = h.n := by rw [List.length_take]; omega
 constructor
 ·intro i hi; show cc (row (.t (h.B.take h.n ++ [[k]])) i) 0 = cc (row (.t h.B) i) 0; rw [xn (by omega), KC hi]
 ·show cc (row (.t (h.B.take h.n ++ [[k]])) h.n) 0 = k; have := xj (l := h.B.take h.n) (x := [k]); rw [e] at this; rw [this]; rfl
theorem DQ (c : eG h) (hf : ¬ 0 <= aQ .s k h.I) : (∀ i, i < h.n -> 0 <= aQ .s ((bX h k any).key i) (bX h k any).I /\ dR (.t (bX h k any).I) ((bX h k any).key i) = dR (.t h.I) (h.key i)) /\
    0 <= aQ .s ((bX h k any).key h.n) (bX h k any).I /\ dR (.t (bX h k any).I) ((bX h k any).key h.n) = h.A.length := by
 obtain ⟨k1, k2⟩ := Hs (k := k) (any := any) c.dK.n; constructor
 ·intro i hi; rw [k1 i hi]; refine Ve c.u (c.dK.k i hi) fun e => hf ?_; obtain ⟨r, hr, e2⟩ := dX.1 (c.dK.k i hi); exact dX.2 ⟨r, hr, e2.trans e⟩
 ·rw [k2]; exact U5 c.u
theorem P2 {A : List Row} {x : Row} {s : Nat} (hs : s < A.length) : yp (A ++ [x]) s = yp A s := by
 unfold yp mh; rw [xn hs]
theorem E9 (c : eG h) (hf : ¬ 0 <= aQ .s k h.I) : (∀ i, i < h.n -> (bX h k any).ob i = h.ob i) /\ (bX h k any).ob h.n = row any 0 := by
 obtain ⟨s1, s2, s3⟩ := DQ (any := any) c hf; constructor
 ·intro i hi; show yp (h.A ++ [[any, .i h.n]]) (dR (.t (bX h k any).I) ((bX h k any).key i)).toNat = yp h.A (dR (.t h.I) (h.key i)).toNat; rw [(s1 i hi).2, P2 (show (dR (.t h.I) (h.key i)).toNat < h.A.length from c.dK.l i hi)]
 ·show yp (h.A ++ [[any, .i h.n]]) (dR (.t (bX h k any).I) ((bX h k any).key h.n)).toNat = _; rw [s3, Int.toNat_natCast]; unfold yp mh; rw [xj (l := h.A)]; rfl
theorem rJ (c : eG h) (hf : ¬ 0 <= aQ .s k h.I) (hc : jf any k) : eG (bX h k any) := by
 obtain ⟨k1, k2⟩ := Hs (k := k) (any := any) c.dK.n; obtain ⟨s1, s2, s3⟩ := DQ (any := any) c hf; obtain ⟨o1, o2⟩ := E9 (any := any) c hf
 have hfk : ∀ i, i < h.n -> (h.key i).S.toList ≠ k.S.toList := fun i hi e => hf (by
  obtain ⟨r, hr, e2⟩ := dX.1 (c.dK.k i hi)
  exact dX.2 ⟨r, hr, e2.trans e⟩)
 have split : ∀ {P : Nat -> Prop}, (∀ i, i < h.n -> P i) -> P h.n -> ∀ i, i < (bX h k any).n -> P i := fun {P} p1 p2 i hi => by
  rcases Nat.lt_or_ge i h.n with q | q
  ·exact p1 i q
  ·have : i = h.n := by
     have : i < h.n + 1 := hi; omega
   rw [this]; exact p2
 have two : ∀ {R : Nat -> Nat -> Prop}, (∀ i j, i < h.n -> j < h.n -> R i j) -> (∀ i, i < h.n -> R i h.n) -> (∀ j, j < h.n -> R h.n j) -> R h.n h.n -> ∀ i j, i < (bX h k any).n -> j < (bX h k any).n -> R i j := fun {R} p1 p2 p3 p4 i j hi hj =>
  split (P := fun i => R i j) (fun i hi => split (P := fun j => R i j) (fun j hj => p1 i j hi hj) (p2 i hi) j hj) (split (P := fun j => R h.n j) p3 p4 j hj) i hi
 refine ⟨⟨?_, ?_, ?_, ?_, ?_, ?_⟩, ?_, wD c.u, ?_, ?_, ?_, ?_⟩
 ·show h.n + 1 <= (h.B.take h.n ++ [[k]]).length; rw [List.length_append, List.length_take]; have := c.dK.n; simp only [List.length_cons, List.length_nil]; omega
 ·exact split (fun i hi => (s1 i hi).1) s2
 ·refine split (fun i hi => ?_) ?_
  ·show 0 <= dR (.t (bX h k any).I) ((bX h k any).key i); rw [(s1 i hi).2]; exact c.dK.i i hi
  ·show 0 <= dR (.t (bX h k any).I) ((bX h k any).key h.n); rw [s3]; omega
 ·refine split (fun i hi => ?_) ?_
  ·show (dR (.t (bX h k any).I) ((bX h k any).key i)).toNat < (h.A ++ [[any, .i h.n]]).length; rw [(s1 i hi).2, List.length_append]; exact Nat.lt_of_lt_of_le (c.dK.l i hi) (Nat.le_add_right _ _)
  ·show (dR (.t (bX h k any).I) ((bX h k any).key h.n)).toNat < (h.A ++ [[any, .i h.n]]).length; rw [s3, List.length_append, Int.toNat_natCast]; exact Nat.lt_succ_self _
 ·refine split (fun i hi => ?_) ?_
  ·show bad ((bX h k any).ob i) = false; rw [o1 i hi]; exact c.dK.b i hi
  ·show bad ((bX h k any).ob h.n) = false; rw [o2]; exact hc.b
 ·refine split (fun i hi => ?_) ?_
  ·show jg ((bX h k any).ob i); rw [o1 i hi]; exact c.dK.o i hi
  ·show jg ((bX h k any).ob h.n); rw [o2]; exact hc.o
 ·refine two (R := fun i j => ((bX h k any).key i).S.toList = ((bX h k any).key j).S.toList -> i = j) (fun i j hi hj e => ?_) (fun i hi e => ?_) (fun j hj e => ?_) fun _ => rfl
  ·rw [k1 i hi, k1 j hj] at e; exact c.d i j hi hj e
  ·rw [k1 i hi, k2] at e; exact absurd e (hfk i hi)
  ·rw [k1 j hj, k2] at e; exact absurd e.symm (hfk j hj)
 ·intro r hr; rcases (AV c.u).1 hr with rfl | ⟨hr, _⟩
  ·exact ⟨h.n, Nat.lt_succ_self _, by rw [k2]; rfl⟩
  ·obtain ⟨i, hi, e⟩ := c.r r hr; exact ⟨i, Nat.lt_succ_of_lt hi, by rw [k1 i hi]; exact e⟩
 ·have sl : ∀ i, i < h.n -> (bX h k any).slot i = h.slot i := fun i hi => congrArg Int.toNat (s1 i hi).2; have sn : (bX h k any).slot h.n = h.A.length := (congrArg Int.toNat s3).trans (Int.toNat_natCast _); have lt : ∀ i, i < h.n -> h.slot i < h.A.length := c.dK.l; refine two (R := fun i j => (bX h k any).slot i = (bX h k any).slot j -> i = j) (fun i j hi hj e => ?_) (fun i hi e => ?_) (fun j hj e => ?_) fun _ => rfl
  ·rw [sl i hi, sl j hj] at e; exact c.x i j hi hj e
  ·rw [sl i hi, sn] at e; have := lt i hi; omega
  ·rw [sl j hj, sn] at e; have := lt j hj; omega
 ·refine split (fun i hi => ?_) ?_
  ·show cc (row (.t (h.A ++ [[any, .i h.n]])) (dR (.t (bX h k any).I) ((bX h k any).key i)).toNat) 1 = .i (i : Int); rw [(s1 i hi).2, xn (show (dR (.t h.I) (h.key i)).toNat < h.A.length from c.dK.l i hi)]; exact c.p i hi
  ·show cc (row (.t (h.A ++ [[any, .i h.n]])) (dR (.t (bX h k any).I) ((bX h k any).key h.n)).toNat) 1 = .i (h.n : Int); rw [s3, Int.toNat_natCast, xj (l := h.A)]; rfl
 ·refine split (fun i hi => ?_) ?_
  ·rw [o1 i hi, k1 i hi]; exact c.k i hi
  ·rw [o2, k2]; exact hc.k
theorem N9 (c : eG h) (hf : ¬ 0 <= aQ .s k h.I) (x : Row) : (bX h k any).mem x ↔ x = row any 0 \/ h.mem x := by
 obtain ⟨o1, o2⟩ := E9 (any := any) c hf; constructor
 ·rintro ⟨i, hi, e⟩; rcases Nat.lt_or_ge i h.n with q | q
  ·exact .inr ⟨i, q, by rw [<- o1 i q]; exact e⟩
  ·have : i = h.n := by
     have : i < h.n + 1 := hi; omega
   subst this; exact .inl (by rw [<- e, o2])
 ·rintro (rfl | ⟨i, hi, e⟩)
  ·exact ⟨h.n, Nat.lt_succ_self _, o2⟩
  ·exact ⟨i, Nat.lt_succ_of_lt hi, by rw [o1 i hi]; exact e⟩
theorem N4 (v : fZ h) (hf : ¬ 0 <= aQ .s k h.I) (hc : jf any k) : fZ (jG h k any) /\ (∀ x, (jG h k any).mem x ↔ x = row any 0 \/ h.mem x) /\ (jG h k any).n = h.n + 1 /\ (jG h k any).A.length = h.A.length + 1 /\ (jG h k any).B.length = h.n + 1 /\ (jG h k any).I = jM .s h.I [k, .i h.A.length] := by
 obtain ⟨o1, o2⟩ := E9 (any := any) v.c hf; have c := rJ v.c hf hc
 have hp : iV lh (bX h k any).ob h.n := fun i i0 hi => by
  rw [o1 i hi, o1 _ (Nat.lt_of_le_of_lt kQ hi)]; exact v.hp i i0 hi
 obtain ⟨u, q⟩ := Br c (Nat.lt_succ_self h.n) (Nat.le_refl _) (Wr hp); refine ⟨⟨u.c, ?_⟩, fun x => (u.m x).trans (N9 v.c hf x), u.n, u.l.trans ?_, u.b.trans ?_, u.i⟩
 ·show iV lh _ (p5 (bX h k any) h.n).n; rw [u.n]; exact q
 ·show (h.A ++ [_]).length = _; rw [List.length_append]; rfl
 ·show (h.B.take h.n ++ [_]).length = _; have := v.c.dK.n; rw [List.length_append, List.length_take]; simp only [List.length_cons, List.length_nil]; omega
end
end Go.Proofs.YtdlppkhmmclipaaGreat.sxObj
