/-
  What functions have to show, as printed.
-/
import Derived.Test.YtdlppkhmmclipaaGreatSxHpB
import Derived.Test.YtdlppkhmmclipaaGreatSxMLoopH
namespace Go.Proofs.YtdlppkhmmclipaaGreat.sxObj
open Go.Sx Go.RowKit Go.Proofs.YtdlppkhmmclipaaGreat
set_option linter.unusedVariables false
set_option linter.unusedSimpArgs false
theorem ZM {I : List Row} (u : ow I) {k k' : Dv} (hh : 0 <= aQ .s k I) (e : k.S.toList = k'.S.toList) : dR (.t I) k = dR (.t I) k' := by
 obtain ⟨r, hr, q⟩ := dX.1 hh; rw [yo u hr q, yo u hr (q.trans e)]
theorem wz {h : HM} (c : eG h) {k : Dv} (hh : 0 <= aQ .s k h.I) : ∃ i, i < h.n /\ (h.key i).S.toList = k.S.toList /\ dR (.t h.I) k = dR (.t h.I) (h.key i) := by
 obtain ⟨r, hr, q⟩ := dX.1 hh; obtain ⟨i, hi, e⟩ := c.r r hr; exact ⟨i, hi, e.trans q, ZM c.u hh (e.trans q).symm⟩
def bf (h : HM) (k any : Dv) : HM := ⟨h.B, h.n, h.I, h.A.set (dR (.t h.I) k).toNat [any, cc (row (.t h.A) (dR (.t h.I) k).toNat) 1]⟩
def fY (h : HM) (k : Dv) : Int := (cc (row (.t h.A) (dR (.t h.I) k).toNat) 1).I
section
variable {h : HM} {k any : Dv} {i : Nat}
theorem Aa (c : eG h) (hi : i < h.n) (e : dR (.t h.I) k = dR (.t h.I) (h.key i)) : (∀ j, j < h.n -> j ≠ i -> (bf h k any).ob j = h.ob j) /\ (bf h k any).ob i = row any 0 := by
 have hl : (dR (.t h.I) k).toNat < h.A.length := by rw [e]; exact c.dK.l i hi
 constructor
 ·intro j hj hne; show yp (h.A.set _ _) (h.slot j) = yp h.A (h.slot j); unfold yp mh; rw [pU hl, if_neg]; intro q; rw [e] at q; exact hne (c.x j i hj hi q)
 ·show yp (h.A.set _ _) (h.slot i) = _; unfold yp mh; rw [pU hl, if_pos (by rw [e]; rfl)]; rfl
theorem xy (c : eG h) (hi : i < h.n) (e : dR (.t h.I) k = dR (.t h.I) (h.key i)) (hk : (h.key i).S.toList = k.S.toList) (hc : jf any k) : eG (bf h k any) := by
 have hl : (dR (.t h.I) k).toNat < h.A.length := by rw [e]; exact c.dK.l i hi
 obtain ⟨o1, o2⟩ := Aa (any := any) c hi e; refine ⟨⟨c.dK.n, c.dK.k, c.dK.i, fun j hj => ?_, fun j hj => ?_, fun j hj => ?_⟩, c.d, c.u, c.r, c.x, fun j hj => ?_, fun j hj => ?_⟩
 ·show _ < (h.A.set _ _).length; rw [List.length_set]; exact c.dK.l j hj
 ·by_cases q : j = i
  ·subst q; show bad ((bf h k any).ob j) = false; rw [o2]; exact hc.b
  ·show bad ((bf h k any).ob j) = false; rw [o1 j hj q]; exact c.dK.b j hj
 ·by_cases q : j = i
  ·subst q; show jg ((bf h k any).ob j); rw [o2]; exact hc.o
  ·show jg ((bf h k any).ob j); rw [o1 j hj q]; exact c.dK.o j hj
 ·show cc (row (.t (h.A.set _ _)) (h.slot j)) 1 = .i (j : Int); rw [pU hl]; split
  ·rename_i q; show cc (row (.t h.A) _) 1 = .i (j : Int); rw [<- q]; exact c.p j hj
  ·exact c.p j hj
 ·by_cases q : j = i
  ·subst q; show (kO ((bf h k any).ob j)).toList = (h.key j).S.toList; rw [o2, hk]; exact hc.k
  ·show (kO ((bf h k any).ob j)).toList = (h.key j).S.toList; rw [o1 j hj q]; exact c.k j hj
theorem QF (c : eG h) (hi : i < h.n) (e : dR (.t h.I) k = dR (.t h.I) (h.key i)) (hk : (h.key i).S.toList = k.S.toList) (x : Row) : (bf h k any).mem x ↔ x = row any 0 \/ (h.mem x /\ (kO x).toList ≠ k.S.toList) := by
 obtain ⟨o1, o2⟩ := Aa (any := any) c hi e; constructor
 ·rintro ⟨j, hj, q⟩
  by_cases hji : j = i
  ·subst hji; exact .inl (by rw [<- q, o2])
  ·rw [o1 j hj hji] at q; refine .inr ⟨⟨j, hj, q⟩, fun q2 => hji (c.d j i hj hi ?_)⟩; rw [<- c.k j hj, q, q2, hk]
 ·rintro (rfl | ⟨⟨j, hj, q⟩, hne⟩)
  ·exact ⟨i, hi, o2⟩
  ·have hji : j ≠ i := fun e2 => hne (by rw [<- q, e2, c.k i hi, hk])
   exact ⟨j, hj, by rw [o1 j hj hji]; exact q⟩
def fv (h : HM) (k any : Dv) : HM := gB (bf h k any) h.n (fY (bf h k any) k).toNat
theorem oI (v : fZ h) (hh : 0 <= aQ .s k h.I) (hc : jf any k) : fZ (fv h k any) /\ (∀ x, (fv h k any).mem x ↔ x = row any 0 \/ (h.mem x /\ (kO x).toList ≠ k.S.toList)) /\ (fv h k any).n = h.n /\ (fv h k any).A.length = h.A.length /\ (fv h k any).B.length = h.B.length /\ (fv h k any).I = h.I /\
    0 <= fY (bf h k any) k /\ (fY (bf h k any) k).toNat < h.n := by
 obtain ⟨i, hi, hk, e⟩ := wz v.c hh; have c := xy (any := any) v.c hi e hk hc; obtain ⟨o1, o2⟩ := Aa (any := any) v.c hi e
 have hj : fY (bf h k any) k = i := by
  have := congrArg Dv.I (c.p i hi); unfold fY; show (cc (row (.t (bf h k any).A) (dR (.t h.I) k).toNat) 1).I = i; rw [e]; exact this
 have hp : cz lh (bf h k any).ob h.n i := by
  have := BW (H := h.ob) (H' := fun j => if j < h.n then (bf h k any).ob j else h.ob j) j5 v.hp (fun j hj => by
   split
   ·rename_i q; exact o1 j q hj
   ·rfl) hi
  refine ⟨fun j j0 jn ji pj => ?_, fun i0 a a0 an ha => ?_⟩
  ·have q := this.a j j0 jn ji pj; rwa [if_pos jn, if_pos (Nat.lt_of_le_of_lt kQ jn)] at q
  ·have q := this.b i0 a a0 an ha; rwa [if_pos an, if_pos (Nat.lt_of_le_of_lt kQ hi)] at q
 have hf := Et (h := bf h k any) (j := i) c hi (Nat.le_refl _) hp
 have he : fv h k any = gB (bf h k any) h.n i := by
  unfold fv; rw [hj, Int.toNat_natCast]
 rw [he, hj]; refine ⟨⟨hf.1, ?_⟩, fun x => (hf.2.2.2.2.2.2 x).trans (QF v.c hi e hk x), hf.2.2.1, hf.2.2.2.2.1.trans (List.length_set ..), hf.2.2.2.2.2.1, hf.2.2.2.1, by omega, by rw [Int.toNat_natCast]; exact hi⟩
 rw [hf.2.2.1]; exact hf.2.1
end
theorem sh {h : HM} {k any : Dv} (v : fZ h) (hh : 0 <= aQ .s k h.I) (hc : jf any k) : wX (bf h k any) (cR (bf h k any) h.n (fY (bf h k any) k).toNat) (B4 (bf h k any) h.n (fY (bf h k any) k).toNat) := by
 obtain ⟨i, hi, hk, e⟩ := wz v.c hh; have c := xy (any := any) v.c hi e hk hc; obtain ⟨o1, o2⟩ := Aa (any := any) v.c hi e
 have hj : fY (bf h k any) k = i := by
  have := congrArg Dv.I (c.p i hi); unfold fY; show (cc (row (.t (bf h k any).A) (dR (.t h.I) k).toNat) 1).I = i; rw [e]; exact this
 have hp : cz lh (bf h k any).ob h.n i := by
  have := BW (H := h.ob) (H' := fun j => if j < h.n then (bf h k any).ob j else h.ob j) j5 v.hp (fun j hj => by
   split
   ·rename_i q; exact o1 j q hj
   ·rfl) hi
  refine ⟨fun j j0 jn ji pj => ?_, fun i0 a a0 an ha => ?_⟩
  ·have q := this.a j j0 jn ji pj; rwa [if_pos jn, if_pos (Nat.lt_of_le_of_lt kQ jn)] at q
  ·have q := this.b i0 a a0 an ha; rwa [if_pos an, if_pos (Nat.lt_of_le_of_lt kQ hi)] at q
 rw [hj, Int.toNat_natCast]; exact (iM c hi (Nat.le_refl _) hp).1
def dV (h : HM) (m : Nat) : HM := ⟨h.B, m, nR .s h.I (h.key m), h.A⟩
theorem Ag {h : HM} {m : Nat} (c : eG h) (hn : h.n = m + 1) (hp : iV lh h.ob m) : fZ (dV h m) /\ (∀ x, (dV h m).mem x ↔ h.mem x /\ (kO x).toList ≠ (h.key m).S.toList) := by
 have lt : ∀ {i}, i < m -> i < h.n := fun q => by omega
 have hm : m < h.n := by omega
 have ne : ∀ i, i < m -> (h.key i).S.toList ≠ (h.key m).S.toList := fun i hi e => by
  have := c.d i m (lt hi) hm e; omega
 have s : ∀ i, i < m -> 0 <= aQ .s (h.key i) (dV h m).I /\ dR (.t (dV h m).I) (h.key i) = dR (.t h.I) (h.key i) := fun i hi => WD c.u (c.dK.k i (lt hi)) (ne i hi)
 have o : ∀ i, i < m -> (dV h m).ob i = h.ob i := fun i hi => by
  show yp h.A (dR (.t (dV h m).I) (h.key i)).toNat = yp h.A (dR (.t h.I) (h.key i)).toNat; rw [(s i hi).2]
 have sl : ∀ i, i < m -> (dV h m).slot i = h.slot i := fun i hi => congrArg Int.toNat (s i hi).2; refine ⟨⟨⟨⟨?_, fun i hi => (s i hi).1, fun i hi => ?_, fun i hi => ?_, fun i hi => ?_, fun i hi => ?_⟩, fun i j hi hj e => c.d i j (lt hi) (lt hj) e, CN c.u, fun r hr => ?_, fun i j hi hj e => ?_, fun i hi => ?_, fun i hi => ?_⟩, fun i i0 hi => ?_⟩, fun x => ?_⟩
 ·have := c.dK.n; show m <= h.B.length; omega
 ·show 0 <= dR (.t (dV h m).I) (h.key i); rw [(s i hi).2]; exact c.dK.i i (lt hi)
 ·show (dR (.t (dV h m).I) (h.key i)).toNat < _; rw [(s i hi).2]; exact c.dK.l i (lt hi)
 ·show bad ((dV h m).ob i) = false; rw [o i hi]; exact c.dK.b i (lt hi)
 ·show jg ((dV h m).ob i); rw [o i hi]; exact c.dK.o i (lt hi)
 ·obtain ⟨hr, hne⟩ := (Hp c.u).1 hr; obtain ⟨i, hi, e⟩ := c.r r hr; refine ⟨i, ?_, e⟩; show i < m; rcases Nat.lt_or_ge i m with q | q
  ·exact q
  ·have : i = m := by omega
   subst this; exact absurd e.symm hne
 ·rw [sl i hi, sl j hj] at e; exact c.x i j (lt hi) (lt hj) e
 ·rw [sl i hi]; exact c.p i (lt hi)
 ·rw [o i hi]; exact c.k i (lt hi)
 ·rw [o i hi, o _ (Nat.lt_of_le_of_lt kQ hi)]; exact hp i i0 hi
 ·constructor
  ·rintro ⟨i, hi, q⟩; have hi : i < m := hi; rw [o i hi] at q; refine ⟨⟨i, lt hi, q⟩, ?_⟩; rw [<- q, c.k i (lt hi)]; exact ne i hi
  ·rintro ⟨⟨i, hi, q⟩, hne⟩
   have : i < m := by
    rcases Nat.lt_or_ge i m with q2 | q2
    ·exact q2
    ·have : i = m := by omega
     subst this; exact absurd (by rw [<- q, c.k i hi]) hne
   exact ⟨i, this, by rw [o i this]; exact q⟩
theorem HB {h : HM} {j m : Nat} (hj : j < m) (hm : m <= h.B.length) : ∀ t k, m <= k -> mh (qv h j t).B k = mh h.B k
 | 0, _, _ => rfl
 | t + 1, k, hk => by
   have ih := HB hj hm t k hk; have hl := Uc (B := .t h.B) (I := .t h.I) (A := .t h.A) (j := j) t; have hjt := TS (B := .t h.B) (I := .t h.I) (A := .t h.A) (j := j) t; have hjt : (qv h j t).j <= j := hjt; have hbl : (qv h j t).B.length = h.B.length := hl.1; have hpl := kQ (j := (qv h j t).j); show mh (zu (qv h j t).B (par (qv h j t).j) (qv h j t).j) k = _; rw [uv (by omega) (by omega), o5 (by omega) (by omega), ih]
theorem vp {h : HM} {j m : Nat} (hm : m <= h.B.length) : ∀ t k, t <= zj h m j -> m <= k -> mh (pF h m j t).B k = mh h.B k
 | 0, _, _, _ => rfl
 | t + 1, k, ht, hk => by
   have ih := vp (j := j) hm t k (by omega) hk
   have hl := Eu (B := .t h.B) (I := .t h.I) (A := .t h.A) (m := m) (j := j) t; have hbl : (pF h m j t).B.length = h.B.length := hl.1; have hg := Ls (Gu (h := h) (m := m) (j := j) (t := t) (by omega))
   have hkm := HQ (I := .t h.I) hg; show mh (zu (pF h m j t).B (pF h m j t).j (gV (.t h.I) (pF h m j t) m)) k = _; rw [uv (by omega) (by omega), o5 (by omega) (by omega), ih]
theorem M0 {h : HM} {j m k : Nat} (hj : j < m) (hm : m <= h.B.length) (hk : m <= k) : (gB h m j).key k = h.key k := by
 have hd : (cR h m j).key k = h.key k := vp hm _ k (Nat.le_refl _) hk; have hl := Eu (B := .t h.B) (I := .t h.I) (A := .t h.A) (m := m) (j := j) (zj h m j); unfold gB; split
 ·exact hd
 ·refine Eq.trans ?_ hd
  exact HB (h := cR h m j) hj (by
   have : (cR h m j).B.length = h.B.length := hl.1
   omega) _ k hk
def jx (h : HM) (i : Nat) : HM := if i = h.n - 1 then dV h (h.n - 1) else dV (gB (bn h i (h.n - 1)) (h.n - 1) i) (h.n - 1)
theorem Ww {h : HM} {i : Nat} (v : fZ h) (hi : i < h.n) : fZ (jx h i) /\ ∀ x, (jx h i).mem x ↔ h.mem x /\ (kO x).toList ≠ (h.key i).S.toList := by
 have hn := v.c.dK.n; unfold jx; split
 ·rename_i e; obtain ⟨a, b⟩ := Ag (m := h.n - 1) v.c (by omega) fun k k0 hk => v.hp k k0 (by omega)
  rw [e]; exact ⟨a, b⟩
 ·rename_i e; have hm : h.n - 1 < h.n := by omega
  have c := fi v.c hi hm; have hb : h.n - 1 < h.B.length := by omega
  have hpd : cz lh (bn h i (h.n - 1)).ob (h.n - 1) i := by
   rw [jv (by omega) hb]
   refine dB j5 ?_ (by omega)
   rw [show h.n - 1 + 1 = h.n by omega]
   exact v.hp
  have hsn : (bn h i (h.n - 1)).n = h.n := rfl; obtain ⟨f1, f2, f3, f4, f5, f6, f7⟩ := Et c (show i < h.n - 1 by omega) (by rw [hsn]; omega) hpd
  obtain ⟨a, b⟩ := Ag (m := h.n - 1) f1 (by rw [f3, hsn]; omega) f2
  have hbl : (bn h i (h.n - 1)).B.length = h.B.length := fu
  have hk : (gB (bn h i (h.n - 1)) (h.n - 1) i).key (h.n - 1) = h.key i := by
   rw [M0 (show i < h.n - 1 by omega) (by rw [hbl]; omega) (Nat.le_refl _), Bs (by omega) hb, uD]
  refine ⟨a, fun x => ?_⟩; rw [b, hk, f7, BO hi hm hn]
def tZ (h : HM) : HM := dV (cR (bn h 0 (h.n - 1)) (h.n - 1) 0) (h.n - 1)
theorem Lt {h : HM} (v : fZ h) (h0 : 0 < h.n) : fZ (tZ h) /\ (∀ x, (tZ h).mem x ↔ h.mem x /\ (kO x).toList ≠ (h.key 0).S.toList) /\ (∀ k, k < h.n -> lh (h.ob k) (h.ob 0) = false) := by
 have hn := v.c.dK.n; have hm : h.n - 1 < h.n := by omega
 have c := fi v.c h0 hm; have hb : h.n - 1 < h.B.length := by omega
 have hsn : (bn h 0 (h.n - 1)).n = h.n := rfl
 have hpd : cz lh (bn h 0 (h.n - 1)).ob (h.n - 1) 0 := by
  rcases Nat.eq_zero_or_pos (h.n - 1) with q | q
  ·rw [q]; exact ⟨fun k k0 kn => by omega, fun q => absurd q (Nat.lt_irrefl _)⟩
  ·rw [jv (by omega) hb]
   refine dB j5 ?_ q; rw [show h.n - 1 + 1 = h.n by omega]
   exact v.hp
 obtain ⟨u, p, f, g⟩ := iM c (j := 0) (m := h.n - 1) (by rw [hsn]; exact h0) (by rw [hsn]; omega) hpd
 have hh : iV lh (cR (bn h 0 (h.n - 1)) (h.n - 1) 0).ob (h.n - 1) := Bp p (by
  rcases Nat.eq_zero_or_pos (B4 (bn h 0 (h.n - 1)) (h.n - 1) 0) with q | q
  ·exact .inl q
  ·exact .inr (f q q))
 obtain ⟨a, b⟩ := Ag (m := h.n - 1) u.c (by rw [u.n, hsn]; omega) hh
 have hbl : (bn h 0 (h.n - 1)).B.length = h.B.length := fu
 have hk : (cR (bn h 0 (h.n - 1)) (h.n - 1) 0).key (h.n - 1) = h.key 0 := by
  have : (cR (bn h 0 (h.n - 1)) (h.n - 1) 0).key (h.n - 1) = (bn h 0 (h.n - 1)).key (h.n - 1) := vp (by rw [hbl]; omega) _ _ (Nat.le_refl _) (Nat.le_refl _)
  rw [this, Bs (by omega) hb, uD]
 refine ⟨a, fun x => ?_, root j5 v.hp⟩; show (dV _ _).mem x ↔ _; rw [b, hk, u.m, BO h0 hm hn]
theorem DL (k : ByteArray) : jH [.s k] = k.toList := by
 unfold jH; rw [toList_data]; rfl
theorem zg {S : List Row} (h : Kr S) : eM (S.map bP) = S.map bP := by
 unfold eM
 have e : (S.map bP).map jH = S.map kl := by
  rw [List.map_map]; exact List.map_congr_left fun r _ => DL _
 rw [e, List.mergeSort_of_pairwise]
 ·rw [List.map_map]; refine List.map_congr_left fun r _ => ?_; show Nc (kl r) = bP r; unfold Nc bP kl
  congr 2
  rw [toList_data]
 ·refine List.pairwise_map.2 (h.imp fun {a b} hl => ?_); unfold leB; have := List.lt_asymm hl; simpa using List.not_lt.1 this
section
variable {S M : List Row} {now ttl : Int}
end
theorem EX {l : Dv} {n : Nat} (hn : n < l.T.length) : jN (.t (l.T.map lF)) n = nine (row l n) := by
 unfold jN; rw [iw hn]; rfl
theorem Lo {l : Dv} {n : Nat} (hn : n < l.T.length) : qa (.t (l.T.map lF)) n ↔ qb l n := by
 unfold qa qb; rw [EX hn]; exact Iff.rfl
theorem LI {l : Dv} : ee (qa (.t (l.T.map lF))) (Dv.t (l.T.map lF)).T.length ↔ ee (qb l) l.T.length := by
 have e : (Dv.t (l.T.map lF)).T.length = l.T.length := List.length_map ..; rw [e]; exact ⟨fun h j hj => (Lo hj).1 (h j hj), fun h j hj => (Lo hj).2 (h j hj)⟩
theorem Gt {l : Dv} (h : dH l.T) : BG (.t (l.T.map lF)) := fun j hj => by
 have hj : j < l.T.length := by rw [Tx, List.length_map] at hj; exact hj
 rw [EX hj]; exact cF h hj
structure SpG (s : Sp) : Prop where
 g : Good s.S
 u : ow s.M
def fq (h : HM) (k any : Dv) : HM := if 0 <= aQ .s k h.I then fv h k any else jG h k any
def mH (l : Dv) (h : HM) : Nat -> HM
 | 0 => h
 | r + 1 => fq (mH l h r) (dc l r) (cc (row l r) 0)
def Sd (ks I A : Dv) : List Row := ks.T.map fun k => [mh A.T (dR I (cc k 0)).toNat]
def T4 (ks I : Dv) : Prop := ∀ k ∈ ks.T, 0 <= aQ .s (cc k 0) I.T /\ 0 <= dR I (cc k 0)
def bL (l : Dv) : Nat -> Nat
 | 0 => 0
 | n + 1 => if dq (cc (row l n) 5).S (cc (row l (bL l n)) 5).S = true then n else bL l n
structure NU where
 S : List Row
 c : Bool
 h : HM
def gY (p : Row) : Dv := .s (bd p)
def dO (p : Row) : Dv := .t [nine (dD p)]
def Pc (S : List Row) (l : Dv) : Nat -> List Row
 | 0 => S
 | n + 1 => ez (.t (Pc S l n)) (ju (cc (row l n) 0).S (cc (row l n) 1).S) (eight (row l n))
noncomputable def bM (p : Row) (s : NU) : NU × Row :=
 if ((cc p 0).I = 1 \/ (cc p 0).I = 3 \/ (cc p 0).I = 4 \/ (cc p 0).I = 8) /\ (cc p 7).B = true then (s, aY 1 false [] [])
 else if (cc p 0).I = 1 then
  (if s.c = true then (s, aY 5 false [] []) else (⟨ez (.t s.S) (bd p) (dD p), s.c, fq s.h (gY p) (dO p)⟩, aY 0 false [] []))
 else if (cc p 0).I = 3 then
  (if s.c = true then (s, aY 5 false [] []) else if hY (.t s.S) (bd p) = true then (s, aY 0 false [] []) else (⟨ez (.t s.S) (bd p) (dD p), s.c, jG s.h (gY p) (dO p)⟩, aY 0 false [] []))
 else if (cc p 0).I = 2 then
  (if s.c = true then (s, aY 5 false [] []) else (⟨Pc s.S (cc p 9) (gN (qb (cc p 9)) (cc p 9).T.length), s.c, mH (.t ((cc p 9).T.map lF)) s.h (gN (qb (cc p 9)) (cc p 9).T.length)⟩, aY (if dec (ee (qb (cc p 9)) (cc p 9).T.length) = true then 0 else 1) false [] []))
 else if (cc p 0).I = 4 then
  (if hY (.t s.S) (bd p) = true then (⟨cM (.t s.S) (bd p), s.c, jx s.h (fY s.h (gY p)).toNat⟩, aY 0 false [] []) else (s, aY 14 false [] []))
 else if (cc p 0).I = 5 then
  (if s.S = [] then (s, aY (if s.c = true then 5 else 99) false [] [])
  else (⟨cM (.t s.S) (kS (row (.t s.S) (bL (.t s.S) s.S.length))), s.c, tZ s.h⟩, aY 0 false [row (.t s.S) (bL (.t s.S) s.S.length)] []))
 else if (cc p 0).I = 6 then (s, aY 0 false s.S [])
 else if (cc p 0).I = 7 then (s, aY 0 false [] (s.S.map bP))
 else if (cc p 0).I = 8 then
  (if hY (.t s.S) (bd p) = true then (s, aY 0 true [row (.t s.S) (iI (.t s.S) (bd p))] []) else (s, aY 0 false [] []))
 else if (cc p 0).I = 10 then
  (if hY (.t s.S) (cc p 10).S = true then (s, aY 0 true [row (.t s.S) (iI (.t s.S) (cc p 10).S)] []) else (s, aY 0 false [] []))
 else if (cc p 0).I = 9 then (⟨s.S, true, s.h⟩, aY 0 false [] [])
 else (s, aY 0 false [] [])
noncomputable def gU (ops : Dv) : Nat -> NU
 | 0 => ⟨[], false, ⟨[], 0, [], []⟩⟩
 | n + 1 => (bM (row ops n) (gU ops n)).1
noncomputable def kH (ops : Dv) : List Row := (List.range ops.T.length).map fun n => (bM (row ops n) (gU ops n)).2
def qhf (l : Dv) (j : Nat) : Prop := jg (dD (row l j)) /\ dH (cc (row l j) 9).T /\ (cc (row l j) 9).T.length <= 20
def sY (l : Dv) : Prop := ee (qhf l) l.T.length /\ l.T.length <= 2000
def xA (d : Dv) : HM := ⟨(ar d 0).T, (ar d 1).I.toNat, (ar d 2).T, (ar d 3).T⟩
noncomputable def aeQ (c : Nat) (d : Dv) : Dv :=
 match c with
 | 300 => .t (Sd (ar d 0) (ar d 1) (ar d 2))
 | 301 => .b (dec (T4 (ar d 0) (ar d 1)))
 | 302 => .t (mH (ar d 4) (xA d) (ar d 5).I.toNat).B
 | 303 => .i (mH (ar d 4) (xA d) (ar d 5).I.toNat).n
 | 304 => .t (mH (ar d 4) (xA d) (ar d 5).I.toNat).I
 | 305 => .t (mH (ar d 4) (xA d) (ar d 5).I.toNat).A
 | 308 => .b (dec (fZ (xA d)))
 | 310 => .t (gU (ar d 0) (ar d 1).I.toNat).h.B
 | 311 => .i (gU (ar d 0) (ar d 1).I.toNat).h.n
 | 312 => .t (gU (ar d 0) (ar d 1).I.toNat).h.I
 | 313 => .t (gU (ar d 0) (ar d 1).I.toNat).h.A
 | 314 => .b (gU (ar d 0) (ar d 1).I.toNat).c
 | 315 => .t (kH (ar d 0))
 | 316 => .b (dec (sY (ar d 0)))
 | 317 => .t (gU (ar d 0) (ar d 0).T.length).h.A
 | 318 => .i (bL (ar d 0) (ar d 0).T.length : Nat)
 | 319 => .i (bL (ar d 0) (ar d 1).I.toNat : Nat)
 | 320 => .t (gU (ar d 0) (ar d 1).I.toNat).S
 | 321 => .t (Pc (ar d 0).T (ar d 1) (ar d 2).I.toNat)
 | _ => .i 0
def OJ (o : Env) : Prop := ∀ c d, 300 <= c -> c < 330 -> o.uf c d = aeQ c d
theorem OJ.az {o o' : Env} (h : OJ o) (e : o'.uf = o.uf) : OJ o' := fun c d h1 h2 => by rw [e]; exact h c d h1 h2
theorem OJ.hb {o : Env} (h : OJ o) : (∀ d, o.uf 300 d = .t (Sd (ar d 0) (ar d 1) (ar d 2))) /\ (∀ d, o.uf 301 d = .b (dec (T4 (ar d 0) (ar d 1)))) /\ (∀ d, o.uf 302 d = .t (mH (ar d 4) (xA d) (ar d 5).I.toNat).B) /\ (∀ d, o.uf 303 d = .i (mH (ar d 4) (xA d) (ar d 5).I.toNat).n) /\
    (∀ d, o.uf 304 d = .t (mH (ar d 4) (xA d) (ar d 5).I.toNat).I) /\ (∀ d, o.uf 305 d = .t (mH (ar d 4) (xA d) (ar d 5).I.toNat).A) /\ (∀ d, o.uf 308 d = .b (dec (fZ (xA d)))) :=
 ⟨fun d => h 300 d (by decide) (by decide), fun d => h 301 d (by decide) (by decide), fun d => h 302 d (by decide) (by decide), fun d => h 303 d (by decide) (by decide), fun d => h 304 d (by decide) (by decide), fun d => h 305 d (by decide) (by decide), fun d => h 308 d (by decide) (by decide)⟩
theorem OJ.hp {o : Env} (h : OJ o) : (∀ d, o.uf 310 d = .t (gU (ar d 0) (ar d 1).I.toNat).h.B) /\ (∀ d, o.uf 311 d = .i (gU (ar d 0) (ar d 1).I.toNat).h.n) /\ (∀ d, o.uf 312 d = .t (gU (ar d 0) (ar d 1).I.toNat).h.I) /\ (∀ d, o.uf 313 d = .t (gU (ar d 0) (ar d 1).I.toNat).h.A) /\
    (∀ d, o.uf 314 d = .b (gU (ar d 0) (ar d 1).I.toNat).c) /\ (∀ d, o.uf 315 d = .t (kH (ar d 0))) /\ (∀ d, o.uf 316 d = .b (dec (sY (ar d 0)))) /\ (∀ d, o.uf 317 d = .t (gU (ar d 0) (ar d 0).T.length).h.A) /\
    (∀ d, o.uf 318 d = .i (bL (ar d 0) (ar d 0).T.length : Nat)) /\ (∀ d, o.uf 319 d = .i (bL (ar d 0) (ar d 1).I.toNat : Nat)) /\ (∀ d, o.uf 320 d = .t (gU (ar d 0) (ar d 1).I.toNat).S) /\ (∀ d, o.uf 321 d = .t (Pc (ar d 0).T (ar d 1) (ar d 2).I.toNat)) :=
 ⟨fun d => h 310 d (by decide) (by decide), fun d => h 311 d (by decide) (by decide), fun d => h 312 d (by decide) (by decide), fun d => h 313 d (by decide) (by decide), fun d => h 314 d (by decide) (by decide), fun d => h 315 d (by decide) (by decide), fun d => h 316 d (by decide) (by decide), fun d => h 317 d (by decide) (by decide), fun d => h 318 d (by decide) (by decide), fun d => h 319 d (by decide) (by decide), fun d => h 320 d (by decide) (by decide), fun d => h 321 d (by decide) (by decide)⟩
theorem M6 {l : List Row} {x : Row} : (jM .s l x).length <= l.length + 1 := by
 unfold jM; split
 ·rw [List.length_set]; omega
 ·rw [List.length_append]; exact Nat.le_refl _
theorem xP {l : List Row} {k : Dv} : (nR .s l k).length <= l.length := by
 unfold nR; split
 ·exact (List.eraseIdx_sublist ..).length_le
 ·exact Nat.le_refl _
structure ac6 (h h' : HM) (m : Nat) : Prop where
 n : h'.n <= h.n + m
 b : h'.B.length <= h.B.length + m
 i : h'.I.length <= h.I.length + m
 a : h'.A.length <= h.A.length + m
theorem MT {h : HM} {k any : Dv} (v : fZ h) (hc : jf any k) : fZ (fq h k any) /\ (∀ x, (fq h k any).mem x ↔ x = row any 0 \/ (h.mem x /\ (kO x).toList ≠ k.S.toList)) /\ ac6 h (fq h k any) 1 := by
 have hn := v.c.dK.n; unfold fq; split
 ·rename_i hh; obtain ⟨a, b, c, d, e, f, _⟩ := oI v hh hc; exact ⟨a, b, by omega, by omega, by rw [f]; omega, by omega⟩
 ·rename_i hh; obtain ⟨a, b, c, d, e, f⟩ := N4 v hh hc; refine ⟨a, fun x => (b x).trans ⟨fun q => q.elim .inl fun q => .inr ⟨q, fun e2 => hh ?_⟩, fun q => q.elim .inl fun q => .inr q.1⟩, by omega, by omega, by rw [f]; exact M6, by omega⟩
  obtain ⟨i, hi, q⟩ := q; obtain ⟨r, hr, e3⟩ := dX.1 (v.c.dK.k i hi); refine dX.2 ⟨r, hr, e3.trans ?_⟩; rw [<- e2, <- q]; exact (v.c.k i hi).symm
theorem sN {l : Dv} {r : Nat} (h1 : qa l r) (h2 : Pt (cc (jN l r) 0) (cc (jN l r) 1) (cc (jN l r) 4)) : jf (cc (row l r) 0) (dc l r) := ⟨h1, h2, rfl⟩
theorem R2 {l : Dv} {h : HM} (v : fZ h) (hl : BG l) : ∀ r, r <= l.T.length -> (∀ j, j < r -> qa l j) -> fZ (mH l h r) /\ ac6 h (mH l h r) r
 | 0, _, _ => ⟨v, Nat.le_refl _, Nat.le_refl _, Nat.le_refl _, Nat.le_refl _⟩
 | r + 1, hr, hq => by
   obtain ⟨a, b⟩ := R2 v hl r (by omega) fun j hj => hq j (by omega)
   obtain ⟨c, _, d⟩ := MT a (sN (hq r (by omega)) (hl r (by omega)))
   have := b.n; have := b.b; have := b.i; have := b.a; have := d.n; have := d.b; have := d.i; have := d.a; exact ⟨c, by show (fq _ _ _).n <= _; omega, by show (fq _ _ _).B.length <= _; omega, by show (fq _ _ _).I.length <= _; omega, by show (fq _ _ _).A.length <= _; omega⟩
structure Rel (S : List Row) (h : HM) : Prop where
 a : ∀ x ∈ S, ∃ y, h.mem y /\ eight y = x
 b : ∀ y, h.mem y -> eight y ∈ S
theorem qf {S : List Row} (g : Good S) {x : Row} (hx : x ∈ S) : kl x = (kO x).toList := by
 unfold kl kS; rw [g.g x hx]; rfl
theorem BM {S : List Row} {h : HM} (g : Good S) (r : Rel S h) (v : fZ h) {k : Dv} : 0 <= aQ .s k h.I ↔ ∃ x ∈ S, kl x = k.S.toList := by
 constructor
 ·intro hh; obtain ⟨i, hi, hk, _⟩ := wz v.c hh; have hm := r.b _ ⟨i, hi, rfl⟩; refine ⟨_, hm, ?_⟩; rw [qf g hm, <- hk, <- v.c.k i hi]; rfl
 ·rintro ⟨x, hx, e⟩; obtain ⟨y, ⟨i, hi, q⟩, rfl⟩ := r.a x hx; obtain ⟨z, hz, q2⟩ := dX.1 (v.c.dK.k i hi); refine dX.2 ⟨z, hz, q2.trans ?_⟩; rw [<- e, qf g hx]; have := v.c.k i hi; rw [q] at this; exact this.symm
theorem eS {S : List Row} {h : HM} (g : Good S) (r : Rel S h) (v : fZ h) {k : ByteArray} : 0 <= aQ .s (.s k) h.I ↔ hY (.t S) k = true := by
 rw [BM g r v]; constructor
 ·rintro ⟨x, hx, e⟩
  by_cases hq : hY (.t S) k = true
  ·exact hq
  ·exfalso; rcases rR (k := k) x hx with q | q | q
   ·exact lJ (nr q) e
   ·have hx2 := hx; rw [<- List.take_append_drop (iI (.t S) k) S] at hx2; rcases List.mem_append.1 hx2 with q2 | q2
    ·exact lJ (nr q2) e
    ·have hu : J4 S k = iI (.t S) k := by unfold J4; rw [if_neg hq]
     rw [<- hu] at q2; exact lJ (jZ g.i q2) e.symm
   ·exact lJ (jZ g.i q) e.symm
 ·intro q; obtain ⟨hl, e⟩ := mK q; exact ⟨_, List.getElem_mem hl, e⟩
theorem Pu {S : List Row} {h h' : HM} (g : Good S) (r : Rel S h) {k : ByteArray} {o z : Row} (hz : eight z = o) (hm : ∀ x, h'.mem x ↔ x = z \/ (h.mem x /\ (kO x).toList ≠ k.toList)) : Rel (ez (.t S) k o) h' := by
 constructor
 ·intro x hx; rcases (mJ g.i).1 hx with rfl | ⟨hx, hne⟩
  ·exact ⟨z, (hm z).2 (.inl rfl), hz⟩
  ·obtain ⟨y, hy, e⟩ := r.a x hx; refine ⟨y, (hm y).2 (.inr ⟨hy, ?_⟩), e⟩; rw [qf g hx, <- e] at hne; exact hne
 ·intro y hy; rcases (hm y).1 hy with rfl | ⟨hy, hne⟩
  ·rw [hz]; exact (mJ g.i).2 (.inl rfl)
  ·have hx := r.b y hy; refine (mJ g.i).2 (.inr ⟨hx, ?_⟩); rw [qf g hx]; exact hne
theorem Rx {S : List Row} {h h' : HM} (g : Good S) (r : Rel S h) {k : ByteArray} (hm : ∀ x, h'.mem x ↔ h.mem x /\ (kO x).toList ≠ k.toList) : Rel (cM (.t S) k) h' := by
 constructor
 ·intro x hx; obtain ⟨hx, hne⟩ := (jr g.i).1 hx; obtain ⟨y, hy, e⟩ := r.a x hx; refine ⟨y, (hm y).2 ⟨hy, ?_⟩, e⟩; rw [qf g hx, <- e] at hne; exact hne
 ·intro y hy; obtain ⟨hy, hne⟩ := (hm y).1 hy; have hx := r.b y hy; refine (jr g.i).2 ⟨hx, ?_⟩; rw [qf g hx]; exact hne
theorem jw {l : Dv} : ∀ n, 0 < n -> bL l n < n
 | n + 1, _ => by
   unfold bL; split
   ·exact Nat.lt_succ_self n
   ·rcases Nat.eq_zero_or_pos n with q | q
    ·subst q; exact Nat.lt_succ_self _
    ·exact Nat.lt_succ_of_lt (jw n q)
theorem zq {S : List Row} (g : Good S) : ∀ n, n <= S.length -> ∀ j, j < n -> lh (row (.t S) j) (row (.t S) (bL (.t S) n)) = false
 | n + 1, hn, j, hj => by
   have ih := zq g n (by omega)
   unfold bL; split
   ·rename_i hb; rw [uC, decide_eq_true_eq] at hb; rcases Nat.lt_or_ge j n with q | q
    ·have h1 := ih j q; rw [<- Bool.not_eq_true, pM] at h1 ⊢; intro h2
     have cU : (cc (row (.t S) n) 5).S.toList < (cc (row (.t S) j) 5).S.toList := by
      rcases Y1 (cc (row (.t S) j) 5).S.toList (cc (row (.t S) (bL (.t S) n)) 5).S.toList with p | p | p
      ·exact absurd (.inl p) h1
      ·rw [p]; exact hb
      ·exact List.lt_trans hb p
     rcases h2 with h2 | ⟨h2, _⟩
     ·exact List.lt_asymm cU h2
     ·rw [h2] at cU; exact List.lt_irrefl _ cU
    ·have : j = n := by omega
     rw [this]; exact irr j5 _
   ·rename_i hb; rcases Nat.lt_or_ge j n with q | q
    ·exact ih j q
    ·have e : j = n := by omega
     subst e; rcases Nat.eq_zero_or_pos j with p | p
     ·subst p; exact irr j5 _
     ·rw [Bool.not_eq_true, uC, decide_eq_false_iff_not] at hb; rw [<- Bool.not_eq_true, pM]; rintro (h2 | ⟨_, h2⟩)
      ·exact hb h2
      ·have hl := jw (l := .t S) j p; have h3 := List.pairwise_iff_getElem.1 g.i _ _ (show bL (.t S) j < S.length by omega) (show j < S.length by omega) hl
       have e1 := hZ (l := .t S) (show bL (.t S) j < S.length by omega)
       have e2 := hZ (l := .t S) (show j < S.length by omega)
       have h3 : (kl (row (.t S) (bL (.t S) j))) < (kl (row (.t S) j)) := by rw [e1, e2]; exact h3
       rw [qf g (eb (d := .t S) (show bL (.t S) j < S.length by omega)), qf g (eb (d := .t S) (show j < S.length by omega))] at h3
       exact List.lt_asymm h3 h2
theorem vV {S : List Row} {h : HM} (g : Good S) (r : Rel S h) (v : fZ h) (h0 : 0 < h.n) (hm : ∀ k, k < h.n -> lh (h.ob k) (h.ob 0) = false) : eight (h.ob 0) = row (.t S) (bL (.t S) S.length) /\ 0 < S.length := by
 have hx := r.b _ ⟨0, h0, rfl⟩; have hS : 0 < S.length := List.length_pos_of_mem hx; refine ⟨?_, hS⟩; have hl := jw (l := .t S) S.length hS; have hy : row (.t S) (bL (.t S) S.length) ∈ S := eb (d := .t S) hl; obtain ⟨y, ⟨i, hi, q⟩, e⟩ := r.a _ hy; obtain ⟨n, hn, en⟩ := mem_row (d := .t S) hx; have h1 := zq g S.length (Nat.le_refl _) n hn; rw [en, <- e] at h1; have h2 := hm i hi; rw [q] at h2; have h1 : lh (h.ob 0) y = false := h1; rw [<- e]
 have hk : (kO (h.ob 0)).toList = (kO y).toList := by
  rw [<- Bool.not_eq_true, pM] at h1 h2; rcases Y1 (cc (h.ob 0) 5).S.toList (cc y 5).S.toList with p | p | p
  ·exact absurd (.inl p) h1
  ·rcases Y1 (kO (h.ob 0)).toList (kO y).toList with s | s | s
   ·exact absurd (.inr ⟨p, s⟩) h1
   ·exact s
   ·exact absurd (.inr ⟨p.symm, s⟩) h2
  ·exact absurd (.inl p) h2
 have hi0 : 0 = i := v.c.d 0 i h0 hi (by rw [<- v.c.k 0 h0, <- v.c.k i hi, q]; exact hk)
 subst hi0; rw [q]
theorem lK {S : List Row} {h : HM} (r : Rel S h) : S = [] ↔ h.n = 0 := by
 constructor
 ·intro e; rcases Nat.eq_zero_or_pos h.n with q | q
  ·exact q
  ·have := r.b _ ⟨0, q, rfl⟩; rw [e] at this; cases this
 ·intro e; cases S with
  | nil => rfl
  | cons x l =>
    obtain ⟨y, ⟨i, hi, _⟩, _⟩ := r.a x (List.mem_cons_self ..); omega
structure yx (S : List Row) (h : HM) (m : Nat) : Prop where
 g : Good S
 o : dH S
 l : S.length <= m
 v : fZ h
 r : Rel S h
 n : h.n <= m
 b : h.B.length <= m
 i : h.I.length <= m
 a : h.A.length <= m
theorem yx.up {S : List Row} {h : HM} {m m' : Nat} (G : yx S h m) (e : m <= m') : yx S h m' :=
 ⟨G.g, G.o, Nat.le_trans G.l e, G.v, G.r, Nat.le_trans G.n e, Nat.le_trans G.b e, Nat.le_trans G.i e, Nat.le_trans G.a e⟩
theorem yx.nil : yx [] ⟨[], 0, [], []⟩ 0 := by
 have no : ∀ {P : Prop} {i : Nat}, i < (⟨[], 0, [], []⟩ : HM).n -> P := fun q => absurd q (Nat.not_lt_zero _); refine ⟨Mh, (fun _ q => by cases q), Nat.le_refl _, ⟨⟨⟨Nat.le_refl _, fun _ q => no q, fun _ q => no q, fun _ q => no q, fun _ q => no q, fun _ q => no q⟩, fun _ _ q => no q, Nr, (fun _ q => by cases q), fun _ _ q => no q, fun _ q => no q, fun _ q => no q⟩, fun _ _ q => no q⟩, ⟨(fun _ q => by cases q), fun _ ⟨_, q, _⟩ => no q⟩, Nat.le_refl _, Nat.le_refl _, Nat.le_refl _, Nat.le_refl _⟩
theorem yx.add {S : List Row} {h : HM} {m : Nat} (G : yx S h m) {k : ByteArray} {x : Row} {any : Dv} (hc : jf any (.s k)) (he : eight (row any 0) = x) : yx (ez (.t S) k x) (fq h (.s k) any) (m + 1) := by
 obtain ⟨v, hm, w⟩ := MT G.v hc; have hb : bad x = false := by rw [<- he]; exact hc.b
 have hk : kl x = k.toList := by
  unfold kl kS; rw [hb]; rw [<- he]; exact hc.k
 have hx : eight x = x := by rw [<- he]; rfl
 have hl := @CX (.t S) k x; simp only [Tx] at hl; have := G.l; have := G.n; have := G.b; have := G.i; have := G.a; have := w.n; have := w.b; have := w.i; have := w.a; refine ⟨I8 G.g hk hb hx, ?_, by omega, v, Pu G.g G.r he hm, by omega, by omega, by omega, by omega⟩
 intro y hy; rcases (mJ G.g.i).1 hy with rfl | hy
 ·rw [<- he]; exact hc.o
 ·exact G.o y hy.1
theorem Nx {h : HM} {m : Nat} : (dV h m).B = h.B /\ (dV h m).n = m /\ (dV h m).I.length <= h.I.length /\ (dV h m).A = h.A := ⟨rfl, rfl, xP, rfl⟩
theorem RG {h : HM} {i : Nat} (v : fZ h) (hi : i < h.n) : (jx h i).n = h.n - 1 /\ (jx h i).B.length = h.B.length /\ (jx h i).I.length <= h.I.length /\ (jx h i).A.length = h.A.length := by
 have hn := v.c.dK.n; unfold jx; split
 ·exact ⟨rfl, rfl, xP, rfl⟩
 ·rename_i e; have hm : h.n - 1 < h.n := by omega
  have c := fi v.c hi hm; have hb : h.n - 1 < h.B.length := by omega
  have hpd : cz lh (bn h i (h.n - 1)).ob (h.n - 1) i := by
   rw [jv (by omega) hb]
   refine dB j5 ?_ (by omega)
   rw [show h.n - 1 + 1 = h.n by omega]
   exact v.hp
  have hsn : (bn h i (h.n - 1)).n = h.n := rfl; obtain ⟨f1, f2, f3, f4, f5, f6, f7⟩ := Et c (show i < h.n - 1 by omega) (by rw [hsn]; omega) hpd
  have hbl : (bn h i (h.n - 1)).B.length = h.B.length := fu; have hal : (bn h i (h.n - 1)).A.length = h.A.length := kc; refine ⟨rfl, f6.trans hbl, ?_, f5.trans hal⟩; refine Nat.le_trans (Nx (h := gB _ _ _)).2.2.1 ?_; rw [f4]; exact Nat.le_refl _
theorem PU {h : HM} (v : fZ h) (h0 : 0 < h.n) : (tZ h).n = h.n - 1 /\ (tZ h).B.length = h.B.length /\ (tZ h).I.length <= h.I.length /\ (tZ h).A.length = h.A.length := by
 have hl := Eu (B := .t (bn h 0 (h.n - 1)).B) (I := .t (bn h 0 (h.n - 1)).I) (A := .t (bn h 0 (h.n - 1)).A) (m := h.n - 1) (j := 0) (zj (bn h 0 (h.n - 1)) (h.n - 1) 0); exact ⟨rfl, hl.1.trans fu, xP, hl.2.trans kc⟩
theorem yx.del {S : List Row} {h h' : HM} {m : Nat} (G : yx S h m) {k : ByteArray} (v : fZ h') (hm : ∀ x, h'.mem x ↔ h.mem x /\ (kO x).toList ≠ k.toList) (w : h'.n = h.n - 1 /\ h'.B.length = h.B.length /\ h'.I.length <= h.I.length /\ h'.A.length = h.A.length) : yx (cM (.t S) k) h' m := by
 have hl := @Dw (.t S) k; simp only [Tx] at hl; obtain ⟨w1, w2, w3, w4⟩ := w; have := G.l; have := G.n; have := G.b; have := G.i; have := G.a; exact ⟨BT G.g, fun y hy => G.o y ((jr G.g.i).1 hy).1, by omega, v, Rx G.g G.r hm, by omega, by omega, by omega, by omega⟩
theorem mO {p : Row} (hb : (cc p 7).B = false) (ho : jg (dD p)) : jf (dO p) (gY p) := ⟨hb, ho, rfl⟩
theorem aez {h : HM} (c : eG h) {k : Dv} (hh : 0 <= aQ .s k h.I) : ∃ i, i < h.n /\ fY h k = i /\ (h.key i).S.toList = k.S.toList := by
 obtain ⟨i, hi, hk, e⟩ := wz c hh; refine ⟨i, hi, ?_, hk⟩; unfold fY; rw [e]; exact congrArg Dv.I (c.p i hi)
theorem Hm {S : List Row} {h : HM} {m : Nat} {l : Dv} (G : yx S h m) (hl : dH l.T) : ∀ r, r <= l.T.length -> (∀ j, j < r -> qb l j) -> yx (Pc S l r) (mH (.t (l.T.map lF)) h r) (m + r)
 | 0, _, _ => G
 | r + 1, hr, hq => by
   have g := Hm G hl r (by omega) fun j hj => hq j (by omega)
   have e := EX (l := l) (n := r) (by omega)
   have e1 : cc (row (.t (l.T.map lF)) r) 0 = .t [nine (row l r)] := by rw [iw (by omega)]; rfl
   have e2 : dc (.t (l.T.map lF)) r = .s (ju (cc (row l r) 0).S (cc (row l r) 1).S) := by
    unfold dc; rw [e]; rfl
   show yx (ez _ _ _) (fq _ (dc _ r) (cc _ 0)) _; rw [e2, e1]; exact g.add ⟨hq r (by omega), cF hl (by omega), rfl⟩ rfl
def L6 (q : NU × Row) (m : Nat) : Prop := yx q.1.S q.1.h m
theorem ij {c : Prop} [d : Decidable c] {t e : NU × Row} {m : Nat} (h1 : c -> L6 t m) (h2 : ¬ c -> L6 e m) : L6 (if c then t else e) m := by
 cases d with
 | isTrue h => exact h1 h
 | isFalse h => exact h2 h
theorem Rm {p : Row} {s : NU} {m : Nat} (G : yx s.S s.h m) (ho : jg (dD p)) (hl : dH (cc p 9).T) (h20 : (cc p 9).T.length <= 20) : yx (bM p s).1.S (bM p s).1.h (m + 20) := by
 have one : m + 1 <= m + 20 := by omega
 show L6 (bM p s) _; have same : ∀ r, L6 (s, r) (m + 20) := fun _ => G.up (show m <= m + 20 by omega)
 unfold bM; refine ij (fun _ => same _) fun hb => ?_
 have hbad : ∀ q : (cc p 0).I = 1 \/ (cc p 0).I = 3 \/ (cc p 0).I = 4 \/ (cc p 0).I = 8, (cc p 7).B = false := fun q => by
  cases q2 : (cc p 7).B with
  | true => exact absurd ⟨q, q2⟩ hb
  | false => rfl
 refine ij (fun h1 => ij (fun _ => same _) fun _ => (G.add (mO (hbad (.inl h1)) ho) rfl).up one) fun _ => ?_; refine ij (fun h3 => ij (fun _ => same _) fun _ => ij (fun _ => same _) fun hn => ?_) fun _ => ?_
 ·have hn2 : ¬ 0 <= aQ .s (Dv.s (bd p)) s.h.I := fun q => hn ((eS G.g G.r G.v).1 q); have := (G.add (mO (hbad (.inr (.inl h3))) ho) rfl).up one; unfold fq at this; rw [if_neg hn2] at this; exact this
 refine ij (fun _ => ij (fun _ => same _) fun _ => ?_) fun _ => ?_
 ·have hg : gN (qb (cc p 9)) (cc p 9).T.length <= (cc p 9).T.length := ke; refine (Hm G hl _ hg fun j hj => ?_).up (by omega)
  have q := bJ (show j < stop (fun j => !dec (qb (cc p 9) j)) (cc p 9).T.length from hj); rw [Bool.not_eq_false'] at q; exact al.1 q
 refine ij (fun _ => ij (fun hq => ?_) fun _ => same _) fun _ => ?_
 ·obtain ⟨i, hi, e, hk⟩ := aez G.v.c ((eS G.g G.r G.v).2 hq); have e : fY s.h (gY p) = i := e; show yx _ (jx s.h (fY s.h (gY p)).toNat) _; rw [e, Int.toNat_natCast]; obtain ⟨a, b⟩ := Ww G.v hi; refine (G.del a (fun x => ?_) (RG G.v hi)).up (by omega)
  rw [b, hk]; exact Iff.rfl
 refine ij (fun _ => ij (fun _ => same _) fun hS => ?_) fun _ => ?_
 ·have h0 : 0 < s.h.n := by
    rcases Nat.eq_zero_or_pos s.h.n with q | q
    ·exact absurd ((lK G.r).2 q) hS
    ·exact q
  obtain ⟨a, b, c⟩ := Lt G.v h0; obtain ⟨e, hS2⟩ := vV G.g G.r G.v h0 c; have hx : row (.t s.S) (bL (.t s.S) s.S.length) ∈ s.S := eb (d := .t s.S) (jw _ hS2)
  have hk : (kS (row (.t s.S) (bL (.t s.S) s.S.length))).toList = (s.h.key 0).S.toList := by
   refine (qf G.g hx).trans ?_; rw [<- e]; exact G.v.c.k 0 h0
  refine (G.del a (fun x => ?_) (PU G.v h0)).up (by omega)
  rw [b, hk]
 refine ij (fun _ => same _) fun _ => ?_; refine ij (fun _ => same _) fun _ => ?_; refine ij (fun _ => ij (fun _ => same _) fun _ => same _) fun _ => ?_; refine ij (fun _ => ij (fun _ => same _) fun _ => same _) fun _ => ?_; exact ij (fun _ => G.up (show m <= m + 20 by omega)) fun _ => same _
theorem lE {ops : Dv} (hf : sY ops) : ∀ n, n <= ops.T.length -> yx (gU ops n).S (gU ops n).h (20 * n)
 | 0, _ => yx.nil
 | n + 1, hn => by
   obtain ⟨a, b, c⟩ := hf.1 n (by omega)
   exact Rm (lE hf n (by omega)) a b c
section
variable {p : Row} {s : NU}
theorem Ou (h : (cc p 0).I = 1 \/ (cc p 0).I = 3 \/ (cc p 0).I = 4 \/ (cc p 0).I = 8) (hb : (cc p 7).B = true) : bM p s = (s, aY 1 false [] []) := by
 unfold bM; rw [if_pos ⟨h, hb⟩]
theorem Pm {p : Row} (hb : (cc p 7).B = false) : ¬ (((cc p 0).I = 1 \/ (cc p 0).I = 3 \/ (cc p 0).I = 4 \/ (cc p 0).I = 8) /\ (cc p 7).B = true) := fun q => by have := q.2; rw [hb] at this; cases this
theorem JJ (h : (cc p 0).I = 1) (hb : (cc p 7).B = false) : bM p s = (if s.c = true then (s, aY 5 false [] []) else (⟨ez (.t s.S) (bd p) (dD p), s.c, fq s.h (gY p) (dO p)⟩, aY 0 false [] [])) := by
 unfold bM; rw [if_neg (Pm hb), if_pos h]
theorem Vj (h : (cc p 0).I = 3) (hb : (cc p 7).B = false) : bM p s = (if s.c = true then (s, aY 5 false [] []) else if hY (.t s.S) (bd p) = true then (s, aY 0 false [] []) else (⟨ez (.t s.S) (bd p) (dD p), s.c, jG s.h (gY p) (dO p)⟩, aY 0 false [] [])) := by
 unfold bM; rw [if_neg (Pm hb), if_neg (by omega), if_pos h]
theorem Vh (h : (cc p 0).I = 2) : bM p s = (if s.c = true then (s, aY 5 false [] []) else (⟨Pc s.S (cc p 9) (gN (qb (cc p 9)) (cc p 9).T.length), s.c, mH (.t ((cc p 9).T.map lF)) s.h (gN (qb (cc p 9)) (cc p 9).T.length)⟩, aY (if dec (ee (qb (cc p 9)) (cc p 9).T.length) = true then 0 else 1) false [] [])) := by
 unfold bM; rw [if_neg (by omega), if_neg (by omega), if_neg (by omega), if_pos h]
theorem OF (h : (cc p 0).I = 4) (hb : (cc p 7).B = false) : bM p s = (if hY (.t s.S) (bd p) = true then (⟨cM (.t s.S) (bd p), s.c, jx s.h (fY s.h (gY p)).toNat⟩, aY 0 false [] []) else (s, aY 14 false [] [])) := by
 unfold bM; rw [if_neg (Pm hb), if_neg (by omega), if_neg (by omega), if_neg (by omega), if_pos h]
theorem Qx (h : (cc p 0).I = 5) : bM p s = (if s.S = [] then (s, aY (if s.c = true then 5 else 99) false [] [])
    else (⟨cM (.t s.S) (kS (row (.t s.S) (bL (.t s.S) s.S.length))), s.c, tZ s.h⟩, aY 0 false [row (.t s.S) (bL (.t s.S) s.S.length)] [])) := by
 unfold bM; rw [if_neg (by omega), if_neg (by omega), if_neg (by omega), if_neg (by omega), if_neg (by omega), if_pos h]
theorem afC (h : (cc p 0).I = 6) : bM p s = (s, aY 0 false s.S []) := by
 unfold bM; rw [if_neg (by omega), if_neg (by omega), if_neg (by omega), if_neg (by omega), if_neg (by omega), if_neg (by omega), if_pos h]
theorem af2 (h : (cc p 0).I = 7) : bM p s = (s, aY 0 false [] (s.S.map bP)) := by
 unfold bM; rw [if_neg (by omega), if_neg (by omega), if_neg (by omega), if_neg (by omega), if_neg (by omega), if_neg (by omega), if_neg (by omega), if_pos h]
theorem adw (h : (cc p 0).I = 8) (hb : (cc p 7).B = false) : bM p s = (if hY (.t s.S) (bd p) = true then (s, aY 0 true [row (.t s.S) (iI (.t s.S) (bd p))] []) else (s, aY 0 false [] [])) := by
 unfold bM; rw [if_neg (Pm hb), if_neg (by omega), if_neg (by omega), if_neg (by omega), if_neg (by omega), if_neg (by omega), if_neg (by omega), if_neg (by omega), if_pos h]
theorem Tu (h : (cc p 0).I = 10) : bM p s = (if hY (.t s.S) (cc p 10).S = true then (s, aY 0 true [row (.t s.S) (iI (.t s.S) (cc p 10).S)] []) else (s, aY 0 false [] [])) := by
 unfold bM; rw [if_neg (by omega), if_neg (by omega), if_neg (by omega), if_neg (by omega), if_neg (by omega), if_neg (by omega), if_neg (by omega), if_neg (by omega), if_neg (by omega), if_pos h]
theorem afS (h : (cc p 0).I = 9) : bM p s = (⟨s.S, true, s.h⟩, aY 0 false [] []) := by
 unfold bM; rw [if_neg (by omega), if_neg (by omega), if_neg (by omega), if_neg (by omega), if_neg (by omega), if_neg (by omega), if_neg (by omega), if_neg (by omega), if_neg (by omega), if_neg (by omega), if_pos h]
theorem agJ (h : (cc p 0).I < 1 \/ 10 < (cc p 0).I) : bM p s = (s, aY 0 false [] []) := by
 unfold bM; rw [if_neg (by omega), if_neg (by omega), if_neg (by omega), if_neg (by omega), if_neg (by omega), if_neg (by omega), if_neg (by omega), if_neg (by omega), if_neg (by omega), if_neg (by omega), if_neg (by omega)]
end
theorem wJ {ops : Dv} {n : Nat} (h : n < ops.T.length) : row (.t (kH ops)) n = (bM (row ops n) (gU ops n)).2 := by
 unfold row kH; show ((List.map _ _)[n]?).getD [] = _; rw [List.getElem?_map, List.getElem?_range h]; rfl
theorem kX {ops : Dv} : (kH ops).length = ops.T.length := by
 unfold kH; rw [List.length_map, List.length_range]
theorem DJ {l : List Row} {f : Row -> List UInt8} (h : l.Pairwise fun a b => f a ≠ f b) : (l.map f).Nodup := List.pairwise_map.2 h
section
variable {S : List Row} {h : HM}
theorem PQ (g : Good S) (r : Rel S h) (v : fZ h) (b : List UInt8) : b ∈ h.I.map ky ↔ b ∈ S.map kl := by
 constructor
 ·intro q; obtain ⟨x, hx, e⟩ := List.mem_map.1 q; obtain ⟨y, hy, e2⟩ := (BM g r v (k := .s ⟨b.toArray⟩)).1 (dX.2 ⟨x, hx, by rw [e]; exact (toList_data ⟨b.toArray⟩).symm⟩)
  exact List.mem_map.2 ⟨y, hy, e2.trans (toList_data _)⟩
 ·intro q; obtain ⟨y, hy, e⟩ := List.mem_map.1 q; obtain ⟨x, hx, e2⟩ := dX.1 ((BM g r v (k := .s ⟨b.toArray⟩)).2 ⟨y, hy, by rw [e]; exact (toList_data ⟨b.toArray⟩).symm⟩)
  exact List.mem_map.2 ⟨x, hx, e2.trans (toList_data _)⟩
theorem Cy (g : Good S) (r : Rel S h) (v : fZ h) : (h.I.map ky).Perm (S.map kl) :=
 (List.perm_ext_iff_of_nodup (DJ v.c.u) (DJ (g.i.imp fun {a b} q => lJ q))).2 (PQ g r v)
theorem et (g : Good S) (r : Rel S h) (v : fZ h) : eM (h.I.map dg) = S.map bP := by
 rw [<- zg g.i]; unfold eM
 have e1 : (h.I.map dg).map jH = h.I.map ky := by
  rw [List.map_map]; exact List.map_congr_left fun x _ => by cases x <;> exact (toList_data _).symm
 have e2 : (S.map bP).map jH = S.map kl := by
  rw [List.map_map]; exact List.map_congr_left fun r _ => DL _
 rw [e1, e2, mergeSort_of_perm (Cy g r v)]
theorem j8 (g : Good S) (r : Rel S h) (v : fZ h) : h.I.length = S.length := by
 have := (Cy g r v).length_eq; rwa [List.length_map, List.length_map] at this
theorem get_at (g : Good S) (r : Rel S h) (v : fZ h) {k : ByteArray} (q : hY (.t S) k = true) : ∃ i, i < h.n /\ fY h (.s k) = i /\ (h.key i).S.toList = k.toList /\ h.slot i = (dR (.t h.I) (.s k)).toNat /\ 0 <= dR (.t h.I) (.s k) /\ (dR (.t h.I) (.s k)).toNat < h.A.length /\
    eight (row (mh h.A (dR (.t h.I) (.s k)).toNat) 0) = row (.t S) (iI (.t S) k) := by
 obtain ⟨i, hi, hk, e⟩ := wz v.c ((eS g r v).2 q); have hs : h.slot i = (dR (.t h.I) (.s k)).toNat := by rw [e]; rfl
 refine ⟨i, hi, ?_, hk, hs, by rw [e]; exact v.c.dK.i i hi, by rw [e]; exact v.c.dK.l i hi, ?_⟩
 ·unfold fY; rw [e]; exact congrArg Dv.I (v.c.p i hi)
 ·have hx := r.b (h.ob i) ⟨i, hi, rfl⟩; have e2 : row (mh h.A (dR (.t h.I) (.s k)).toNat) 0 = h.ob i := by rw [<- hs]; rfl
  rw [e2]; obtain ⟨hl, e3⟩ := mK q; refine HO g.i hl hx ?_; rw [hZ (l := .t S) hl]; refine Eq.trans ?_ e3.symm; rw [qf g hx]; exact (v.c.k i hi).trans hk
theorem Nq (g : Good S) {x : Row} (hx : x ∈ S) {k : ByteArray} (e : kl x = k.toList) : hY (.t S) k = true /\ row (.t S) (iI (.t S) k) = x := by
 have hq : hY (.t S) k = true := by
  by_cases hq : hY (.t S) k = true
  ·exact hq
  ·exfalso; rcases rR (k := k) x hx with q | q | q
   ·exact lJ (nr q) e
   ·have hx2 := hx; rw [<- List.take_append_drop (iI (.t S) k) S] at hx2; rcases List.mem_append.1 hx2 with q2 | q2
    ·exact lJ (nr q2) e
    ·have hu : J4 S k = iI (.t S) k := by unfold J4; rw [if_neg hq]
     rw [<- hu] at q2; exact lJ (jZ g.i q2) e.symm
   ·exact lJ (jZ g.i q) e.symm
 refine ⟨hq, ?_⟩; obtain ⟨hl, e3⟩ := mK hq; refine (HO g.i hl hx ?_).symm; rw [hZ (l := .t S) hl]; exact e.trans e3.symm
theorem Qt (g : Good S) (r : Rel S h) (v : fZ h) : T4 (.t (S.map bP)) (.t h.I) := fun k hk => by
 obtain ⟨x, hx, rfl⟩ := List.mem_map.1 hk; obtain ⟨q, _⟩ := Nq g hx (k := kS x) rfl; obtain ⟨_, _, _, _, _, a, _⟩ := get_at g r v q; exact ⟨(eS g r v).2 q, a⟩
theorem Ip (g : Good S) (r : Rel S h) (v : fZ h) : (Sd (.t (S.map bP)) (.t h.I) (.t h.A)).map nv = S := by
 unfold Sd; show ((S.map bP).map _).map _ = _; rw [List.map_map, List.map_map]; refine Eq.trans (List.map_congr_left fun x hx => ?_) (List.map_id S); obtain ⟨q, e⟩ := Nq g hx (k := kS x) rfl; obtain ⟨_, _, _, _, _, _, _, b⟩ := get_at g r v q; exact b.trans e
end
def Ao : Nat := 57
def Bz : Nat := 54
def EC : Nat := 56
def Ba : Nat := 51
def Bv : Nat := 10
def aac : Nat := 114
def WK (closed B len I A : E) (it : Option Nat := none) : aR := [(500177, .ar Tp PL A), (8, .row r7 1 (aB B) (b8 gH B 0) []), (3, itH I it), (2, .cells tHD [.map 3, .sl 8 1 (.il 0) len, .fn (.func uB) [] [], .fn (.func ui) [] []]), (1, .cells aac [.ei 115 .ml, .ptr 2 (.c 0), .bool closed])]
def FK : AS := ⟨9, 3, 4, .str, 7749⟩
def JG : ak where
 f := Ge; key := 3; N := 21; r := 2202; base := 182000
 js := [4] ++ jX 10 18
 hd := fun _ => ⟨[(0, .map 3), (9, .ptr 4 (.c 0)), (3, .sl 5 1 (.il 0) (aB (.v 2202)))], [(500177, .ar Tp PL (.v 7741)), (5, .row r7 1 (aB (.v 2202)) (b8 gH (.v 2202) 0) []), (4, .oA 3 .str (.v 2202)), (3, itH (.v 7740) (some 4))], 9, [mb (.v 7740), (.uf 201 (pk [.v 7740]), true)]⟩
 aU := fun _ => [mb (.v 7740), (.uf 201 (pk [.v 7740]), true)]
 app := fun _ => true
 mS := fun m => Nat.beq m 0
 dI := fun _ => .ret 0
 ll := fun m => Nat.beq m 0
 mf := fun _ => []
 hx := fun _ => ⟨[(0, .map 3), (9, .top), (3, .sl 5 1 (.il 0) (aB (.v 7740)))], [(500177, .ar Tp PL (.v 7741)), (5, .sm r7 gH (.uf 200 (pk [.v 7740]))), (3, itH (.v 7740) none)], 9, []⟩
 sP := fun _ _ => .ret 0
 nS := fun _ => .exit 0
 bp := [(.bl true, 0)]
 fixed := [3]
 lt := .bl true
 X := di.none
 fuel := 300; np := 60
 params := [7740, 7741]
def hlF : aa := [mb (.v 7750), (.uf 301 (pk [.v 7750, .v 7751]), true)]
def hlY : ak where
 f := Ao; key := 5; N := 52; r := 2203; base := 183000
 js := [5] ++ jX 32 51
 hd := fun _ => ⟨[(0, .ptr 1 (.c 0)), (29, .bR gH (.v 7750)), (30, iS (aB (.v 7750))), (3, .sl 14 1 (.il 0) (.v 2203)), (31, iS (.v 2203))],
  (14, .row Kj 1 (.v 2203) (b8 aK (.uf 300 (pk [.v 7750, .v 7751, .v 7752])) 0) []) :: WK (.v 7753) (.v 7754) (.v 7755) (.v 7751) (.v 7752), 20,
  cP (.il 0) (.v 2203) :: cP (.v 2203) (aB (.v 7750)) :: hlF⟩
 aU := fun _ => hlF
 app := fun _ => true
 mS := fun m => Nat.beq m 0
 dI := fun _ => .ret 0
 ll := fun m => Nat.beq m 0
 mf := fun _ => []
 hx := fun _ => ⟨[(0, .ptr 1 (.c 0)), (29, .top), (30, .top), (3, .bR aK (.uf 300 (pk [.v 7750, .v 7751, .v 7752]))), (31, .top)], WK (.v 7753) (.v 7754) (.v 7755) (.v 7751) (.v 7752), 20, []⟩
 sP := fun _ _ => .ret 0
 nS := fun _ => .exit 0
 bp := [(.bl true, 0)]
 fixed := [1, 2, 3, 8]
 lt := .o2 .lt (.v 2203) (aB (.v 7750))
 X := di.none.vP
 fuel := 300; np := 60
 params := [7750, 7751, 7752, 7753, 7754, 7755]
 On := [(82, 1)]
 wW := [(Kj, aK), (r7, gH)]
def hkY : ak where
 f := Bz; key := 5; N := 41; r := 2204; base := 184000
 js := [5] ++ jX 32 40
 hd := fun _ => ⟨[(29, .bR gH (.v 7757)), (30, iS (aB (.v 7757))), (3, .sl 8 1 (.il 0) (.v 2204)), (31, iS (.v 2204))],
  [(8, .row r7 1 (.v 2204) (b8 gH (.v 7757) 0) [])], 9, cP (.il 0) (.v 2204) :: cP (.v 2204) (aB (.v 7757)) :: [mb (.v 7757)]⟩
 aU := fun _ => [mb (.v 7757)]
 app := fun _ => true
 mS := fun m => Nat.beq m 0
 dI := fun _ => .ret 0
 ll := fun m => Nat.beq m 0
 mf := fun _ => []
 hx := fun _ => ⟨[(29, .top), (30, .top), (3, .bR gH (.v 7757)), (31, .top)], [], 9, []⟩
 sP := fun _ _ => .ret 0
 nS := fun _ => .exit 0
 bp := [(.bl true, 0)]
 fixed := []
 lt := .o2 .lt (.v 2204) (aB (.v 7757))
 X := di.none
 fuel := 300; np := 60
 params := [7757]
 On := [(82, 1)]
 wW := [(r7, gH)]
def hwF : aa := [cP (.il 0) (.v 7760), (.o2 .or (.o2 .lt (.il 0) (.v 7760)) (.v 7761), true)]
def hwY : ak where
 f := EC; key := 3; N := 40; r := 2205; base := 185000
 js := jX 12 30
 hd := fun _ => ⟨[(0, .ptr 1 (.c 0)), (2, .dN), (3, .dN)], WK (.v 7761) (.v 7762) (.v 7760) (.v 7763) (.v 7764), 20, cP (.il 0) (.v 2205) :: cP (.v 2205) (.il 0) :: hwF⟩
 aU := fun _ => hwF
 app := fun _ => true
 mS := fun m => Nat.beq m 0
 dI := fun _ => .ret 0
 ll := fun m => Nat.beq m 0
 mf := fun _ => []
 hx := fun n => ⟨[(0, .ptr 1 (.c 0)), (2, .dN), (3, match n with | 1 => .ei FQ (.str (.sl [104, 101, 97, 112, 32, 105, 115, 32, 99, 108, 111, 115, 101, 100])) | _ => .dN)], WK (.v 7761) (.v 7762) (.v 7760) (.v 7763) (.v 7764), 20, []⟩
 sP := fun ex _ => match ex with | .ret => .ret 1 | _ => .ret 0
 nS := fun n => match n with | 1 => .ret | _ => .exit 0
 bp := [(.o2 .aN (.v 7760) (.il 0), 1), (.bl true, 0)]
 fixed := [1, 2, 3, 8]
 lt := .o2 .lt (.v 2205) (.il 0)
 X := di.none
 fuel := 300; np := 60
 params := [7760, 7761, 7762, 7763, 7764]
 On := [(76, 1)]
def QO : SV := .ei FQ (.str (.sl Nu))
def hbP : List E := [.v 7771, .v 7772, .v 7773, .v 7774, .v 7770]
def TL (r : E) : E := pk (hbP ++ [r])
def KG : aa := [(.uf 213 (pk [.v 7770]), true), mb (.v 7770), (.uf 308 (pk [.v 7771, .v 7772, .v 7773, .v 7774]), true), cP (aB (.v 7770)) (.il 20), cP (.il 0) (.v 7772), cP (.v 7772) (.il 500000), cP (aB (.v 7771)) (.il 500000), cP (aB (.v 7774)) (.il 500000), cP (aB (.v 7773)) (.il 500000)]
def hbX : gW := ⟨[(uB, sg.aS)], [(fUp, 0, YP.cW), (GY, 2, YU.cW)]⟩
def hbY : ak where
 f := Ba; key := 6; N := 99; r := 2206; base := 186000
 js := [6, 7, 8, 9, 10] ++ jX 26 99
 hd := fun _ => ⟨[(0, .ptr 1 (.c 0)), (4, .dN), (23, .bR aK (.v 7770)), (24, iS (aB (.v 7770))), (25, iS (.v 2206))],
  WK (.v 7775) (.uf 302 (TL (.v 2206))) (.uf 303 (TL (.v 2206))) (.uf 304 (TL (.v 2206))) (.uf 305 (TL (.v 2206))), 20,
  cP (.il 0) (.v 2206) :: cP (.v 2206) (.uf 212 (pk [.v 7770])) :: KG⟩
 aU := fun _ => KG
 app := fun _ => true
 mS := fun m => Nat.beq m 0
 dI := fun _ => .ret 0
 ll := fun m => Nat.beq m 0
 mf := fun _ => []
 hx := fun n => ⟨[(0, .ptr 1 (.c 0)), (4, match n with | 1 => .ei 149 (.agg [.ei Qc (.dG oK (.o2 (.cell 0) (.v 7770) (.uf 212 (pk [.v 7770]))) (.il 0) 0), QO]) | _ => .dN), (23, .top), (24, .top), (25, .top)],
  WK (.v 7775) (.uf 302 (TL (.uf 212 (pk [.v 7770])))) (.uf 303 (TL (.uf 212 (pk [.v 7770])))) (.uf 304 (TL (.uf 212 (pk [.v 7770])))) (.uf 305 (TL (.uf 212 (pk [.v 7770])))), 20, []⟩
 sP := fun ex _ => match ex with | .ret => .ret 1 | _ => .ret 0
 nS := fun n => match n with | 1 => .ret | _ => .exit 0
 bp := [(.uf 211 (pk [.v 7770]), 1), (.bl true, 0)]
 fixed := [1, 2, 3]
 lt := .o2 .lt (.v 2206) (.uf 212 (pk [.v 7770]))
 X := hbX.x.vP
 fuel := 1500; np := 260
 params := [7770, 7771, 7772, 7773, 7774, 7775]
 On := [(76, 1)]
 wW := [(Kj, aK), (r7, gH)]
 PY := [(7771, 0, 0, [1, 1]), (7772, 0, 0, [1, 1001]), (7773, 0, 0, [1, 0]), (7774, 0, 500177, [])]
def QQ : aJ := .cons (.int .i64) (.cons .str (.cons .str (.cons .str (.cons .str (.cons (.sl gQ) (.cons .str (.cons .bool (.cons .bool (.cons (.sl dp) (.cons .str .nil))))))))))
def Zr : Nat := 33
def hmA : E := pk [.v 7780, .v 2207]
def Tj : E := .uf 315 (pk [.v 7780])
def Dl : aa := [(.uf 316 (pk [.v 7780]), true), cP (aB (.v 7780)) (.il 2000)]
def hmX : gW := ⟨[(kD, l8.aS), (ni, vt.aS), (uB, sg.aS), (gZ, iY.aS), (kZ, my.aS), (NI, GV.aS), (Dm, y8 106)],
 [(Ge, 3, JG.cW), (Ao, 5, hlY.cW), (Bz, 5, hkY.cW), (EC, 3, hwY.cW), (Ba, 6, hbY.cW), (fUp, 0, YP.cW), (GY, 2, YU.cW)]⟩
def HW : ak where
 f := Bv; key := 4; N := 23; r := 2207; base := 187000
 js := jX 7 23
 hd := fun m => ⟨[(0, .bR QQ (.v 7780)), (3, .ptr 1 (.c 0)), (4, match m with | 0 => .bO | _ => .sl 21 6 (.il 0) (.v 2207)), (5, iS (.v 2207))],
  (match m with | 0 => [] | _ => [(21, .row kC 6 (.v 2207) (b8 J0 Tj 0) [])]) ++ WK (.uf 314 hmA) (.uf 310 hmA) (.uf 311 hmA) (.uf 312 hmA) (.uf 313 hmA), 30,
  (match m with | 0 => [(.o2 .aN (.v 2207) (.il 0), true)] | _ => [sM (.il 0) (.v 2207)]) ++ cP (.il 0) (.v 2207) :: cP (.v 2207) (aB (.v 7780)) :: Dl⟩
 aU := fun _ => Dl
 app := fun _ => true
 mS := fun m => Nat.beq m 0
 dI := fun sl => match nth sl 4 with | some .bO => .ret 0 | some (.sl ..) => .ret 1 | _ => .fail
 ll := fun m => Nat.beq m 1
 mf := fun m => match m with | 0 => [(.o2 .aN (.v 2207) (.il 0), true)] | _ => [sM (.il 0) (.v 2207)]
 hx := fun _ => ⟨[(0, .top), (3, .top), (4, .bR J0 Tj), (5, .top)], [(500177, .ar Tp PL (.uf 317 (pk [.v 7780])))], 30, []⟩
 sP := fun _ _ => .ret 0
 nS := fun _ => .exit 0
 bp := [(.bl true, 0)]
 fixed := []
 lt := .o2 .lt (.v 2207) (aB (.v 7780))
 X := hmX.x.vP
 fuel := 3000; np := 400
 params := [7780]
 wW := [(Zr, QQ), (kC, J0), (qo, dp), (r7, gH), (acm, Lu), (Kj, aK)]
def EM : Nat := 63
def MD : Nat := 30
def B1 : Nat := 11
def leY : ak where
 f := EM; key := 3; N := 24; r := 2210; base := 190000
 js := [4, 5] ++ jX 9 23
 hd := fun _ => ⟨[(0, .bR dp (.v 7790)), (3, iS (.uf 319 (pk [.v 7790, .v 2210]))), (6, .bR dp (.v 7790)), (7, iS (aB (.v 7790))), (8, iS (.v 2210))], [], 9, cP (.il 0) (.v 2210) :: cP (.v 2210) (aB (.v 7790)) :: [mb (.v 7790)]⟩
 aU := fun _ => [mb (.v 7790)]
 app := fun _ => true
 mS := fun m => Nat.beq m 0
 dI := fun _ => .ret 0
 ll := fun m => Nat.beq m 0
 mf := fun _ => []
 hx := fun _ => ⟨[(0, .top), (3, iS (.uf 318 (pk [.v 7790]))), (6, .top), (7, .top), (8, .top)], [], 9, []⟩
 sP := fun _ _ => .ret 0
 nS := fun _ => .exit 0
 bp := [(.bl true, 0)]
 fixed := []
 lt := .o2 .lt (.v 2210) (aB (.v 7790))
 X := di.none
 fuel := 300; np := 60
 params := [7790]
def hdA (r : E) : E := .uf 321 (pk [.v 7791, .v 7792, r])
def hdF : aa := [(u9 (.v 7791), true), (u9 (.v 7792), true), cP (aB (.v 7792)) (.il 20), cP (aB (.v 7791)) (.il 500000)]
def hdY : ak where
 f := MD; key := 24; N := 190; r := 2211; base := 191000
 js := [15, 16, 17] ++ jX 81 98
 hd := fun _ => ⟨[(0, .bR dp (hdA (.v 2211))), (1, .bool (.v 7793)), (6, .bO), (7, .bool (.bl false)), (8, .ptr 1 (.c 0)), (78, .bR dp (.v 7792)), (79, iS (aB (.v 7792))), (80, iS (.v 2211))], [(1, .cells kC st0)], 9,
  cP (.il 0) (.v 2211) :: cP (.v 2211) (.uf 167 (pk [.v 7792])) :: hdF⟩
 aU := fun _ => hdF
 app := fun _ => true
 mS := fun m => Nat.beq m 0
 dI := fun _ => .ret 0
 ll := fun m => Nat.beq m 0
 mf := fun _ => []
 hx := fun n => match n with
  | 1 => ⟨[(0, .top), (1, .top), (6, .bR dp (hdA (.uf 167 (pk [.v 7792])))), (7, .bool (.v 7793)), (8, .ptr 1 (.c 0)), (78, .top), (79, .top), (80, .top)], [(1, .cells kC st1)], 9, []⟩
  | _ => ⟨[(0, .bR dp (hdA (.uf 167 (pk [.v 7792])))), (1, .bool (.v 7793)), (6, .bO), (7, .bool (.bl false)), (8, .ptr 1 (.c 0)), (78, .top), (79, .top), (80, .top)], [(1, .cells kC st0)], 9, []⟩
 sP := fun ex _ => match ex with | .ret => .ret 1 | _ => .ret 0
 nS := fun n => match n with | 1 => .ret | _ => .exit 2
 bp := [(.uf 166 (pk [.v 7792]), 1), (.bl true, 0)]
 fixed := [1]
 lt := .o2 .lt (.v 2211) (.uf 167 (pk [.v 7792]))
 X := (⟨[(ic, fj.aS), (mC, gI.aS)], []⟩ : gW).x
 fuel := 400; np := 120
 params := [7791, 7792, 7793]
 wW := [(qo, dp)]
 Zn := [(7791, 0)]
def hsA : E := pk [.v 7795, .v 2212]
def Si : E := .uf 315 (pk [.v 7795])
def Ch : aa := [(.uf 316 (pk [.v 7795]), true), cP (aB (.v 7795)) (.il 2000)]
def hsX : gW := ⟨[(ic, fj.aS), (ik, lO.aS), (mC, gI.aS), (nA, fU.aS), (la, rT.aS)], [(EM, 3, leY.cW), (MD, 24, hdY.cW)]⟩
def Hf : ak where
 f := B1; key := 5; N := 29; r := 2212; base := 192000
 js := [7, 8] ++ jX 12 28
 hd := fun m => ⟨[(3, .bR dp (.uf 320 hsA)), (4, .bool (.uf 314 hsA)), (5, match m with | 0 => .bO | _ => .sl 8 6 (.il 0) (.v 2212)), (9, .bR QQ (.v 7795)), (10, iS (aB (.v 7795))), (11, iS (.v 2212))],
  (match m with | 0 => [] | _ => [(8, .row kC 6 (.v 2212) (b8 J0 Si 0) [])]), 9,
  (match m with | 0 => [(.o2 .aN (.v 2212) (.il 0), true)] | _ => [sM (.il 0) (.v 2212)]) ++ cP (.il 0) (.v 2212) :: cP (.v 2212) (aB (.v 7795)) :: Ch⟩
 aU := fun _ => Ch
 app := fun _ => true
 mS := fun m => Nat.beq m 0
 dI := fun sl => match nth sl 5 with | some .bO => .ret 0 | some (.sl ..) => .ret 1 | _ => .fail
 ll := fun m => Nat.beq m 1
 mf := fun m => match m with | 0 => [(.o2 .aN (.v 2212) (.il 0), true)] | _ => [sM (.il 0) (.v 2212)]
 hx := fun _ => ⟨[(3, .top), (4, .top), (5, .bR J0 Si), (9, .top), (10, .top), (11, .top)], [], 9, []⟩
 sP := fun _ _ => .ret 0
 nS := fun _ => .exit 0
 bp := [(.bl true, 0)]
 fixed := []
 lt := .o2 .lt (.v 2212) (aB (.v 7795))
 X := hsX.x.vP
 fuel := 1200; np := 300
 params := [7795]
 wW := [(kC, J0), (qo, dp), (r7, gH), (acm, Lu)]
end Go.Proofs.YtdlppkhmmclipaaGreat.sxObj
namespace Go.Proofs.YtdlppkhmmclipaaGreat.sxObj
open Go.Sx
set_option linter.unusedVariables false
set_option maxRecDepth 100000
abbrev RS : E := .v 7790
abbrev eA : E := .il 0
abbrev Uk : E := .uf 319 (eP RS (eP (.v 2210) eA))
abbrev ot3 : E := .o2 .slt (eC 5 RS (.v 2210)) (eC 5 RS Uk)
abbrev ot4 : E := .o2 .lt (.v 2210) (.o1 .ab RS)
abbrev ot5 : E := .uf 319 (eP RS (eP (.o2 .add (.v 2210) (.il 1)) eA))
def leL : List (aa × List Ob) :=
 [(fT ot3 (fT ot4 []), oO (.o2 .lt Uk (.o1 .ab RS)) (oO (.o2 .le eA Uk) (oO (.o2 .aN (.v 2210) ot5) []))),
  (fF ot3 (fT ot4 []), oO (.o2 .lt Uk (.o1 .ab RS)) (oO (.o2 .le eA Uk) (oO (.o2 .aN Uk ot5) []))),
  (fF ot4 [], oO (.o2 .aN Uk (.uf 318 (eP RS eA))) [])]
abbrev w7 : E := .v 7792
abbrev yz : E := .v 2211
abbrev ot8 : E := eC 6 w7 yz
abbrev ot9 : E := .o2 .lt yz (.o1 .ab w7)
abbrev aaJ : E := .uf 166 (eP w7 eA)
abbrev Ph : E := .uf 321 (eP (.v 7791) (eP w7 (eP yz eA)))
abbrev adY : E := .uf 167 (eP w7 eA)
abbrev acu : List Ob := oT Ph (.uf 321 (eP (.v 7791) (eP w7 (eP adY eA)))) []
def hdL : List (aa × List Ob) :=
 [(fT ot8 (fT ot9 []), oO aaJ (oO (.uf 110 (eP (eC 0 w7 yz) (eP (eC 1 w7 yz) (eP (eC 4 w7 yz) eA)))) acu)),
  (fF ot8 (fT ot9 []), oO (.o2 .lt yz adY) (oO (.o2 .le (.o1 .ab Ph) (.il 1000000)) (oO (.uf 110 (eP (eC 0 w7 yz) (eP (eC 1 w7 yz) (eP (eC 4 w7 yz) eA)))) (oO (.uf 111 (eP Ph eA)) (oO (.uf 110 (eP (eC 0 w7 yz) (eP (eC 1 w7 yz) (eP (eC 4 w7 yz) eA)))) (oT (.uf 107 (eP Ph (eP (eC 0 w7 yz) (eP (eC 1 w7 yz) (eP (eC 2 w7 yz) (eP (eC 3 w7 yz) (eP (eC 4 w7 yz) (eP (eC 5 w7 yz) (eP ot8 (eP (eC 7 w7 yz) eA)))))))))) (.uf 321 (eP (.v 7791) (eP w7 (eP (.o2 .add yz (.il 1)) eA)))) [])))))),
  (fF ot9 [], oO (.o1 .not aaJ) acu)]
abbrev gq : E := .v 7795
abbrev gf : E := .v 2212
abbrev bH : E := eC 0 gq gf
abbrev fL : E := eP gq (eP gf eA)
abbrev cZ : E := .uf 320 fL
abbrev V4 : E := eP cZ (eP (.sl []) eA)
abbrev UW : E := eC 7 gq gf
abbrev QK : E := .o2 .lt gf (.o1 .ab gq)
abbrev ZS : aa := fT UW (fT QK [])
abbrev ab5 : aa := fT (.uf 105 V4) ZS
abbrev fc : E := .o1 .ab cZ
abbrev iW : E := eP cZ eA
abbrev m5 : E := eC 1 gq gf
abbrev mU : E := eC 2 gq gf
abbrev uY : E := eP gq (eP (.o2 .add gf (.il 1)) eA)
abbrev pZ : E := .uf 320 uY
abbrev pX : E := .uf 315 (eP gq eA)
abbrev wP (x : E) : E := eC 0 pX x
abbrev IP (x : E) : E := eC 2 pX x
abbrev Z6 (x : E) : List Ob := oO (.o2 .seq (.sl []) (eC 4 pX x)) (oT eA (eC 5 pX x) [])
abbrev LF (x : E) : List Ob := oT eA (eC 3 pX x) (Z6 x)
abbrev JO (x : E) : List Ob := oO (.o2 .beq (.bl false) (eC 1 pX x)) (oT eA (IP x) (LF x))
abbrev adJ (x : E) : List Ob := oO (.o2 .beq (.uf 314 fL) (.uf 314 uY)) (oO (.o2 .aN (.il 1) (wP x)) (JO x))
abbrev CH (x : E) : List Ob := oO (.o2 .le fc (.il 1000000)) (oO (.uf 111 iW) (oO (.uf 110 (eP m5 (eP mU (eP (eC 5 gq gf) eA)))) (oT cZ pZ (adJ x))))
abbrev acT : aa := fF (.o2 .aN bH (.il 1)) ab5
abbrev abS : aa := fF (.o2 .aN bH (.il 3)) acT
abbrev aec : aa := fF (.o2 .aN bH (.il 4)) abS
abbrev acL : aa := fF (.o2 .aN bH (.il 8)) aec
abbrev acj : aa := fT (.o2 .aN bH (.il 2)) acL
abbrev Kd (x : E) : List Ob := oO (.uf 111 iW) (oO (.uf 110 (eP m5 (eP mU (eP (eC 5 gq gf) eA)))) (oT cZ pZ (oO (.o2 .beq (.uf 314 fL) (.uf 314 uY)) (oO (.o2 .aN (.il 5) (wP x)) (JO x)))))
abbrev CI (x : E) : List Ob := oO (.o2 .le fc (.il 1000000)) (Kd x)
abbrev ED : E := eC 9 gq gf
abbrev uU : E := eP ED eA
abbrev abG : aa := fF (.uf 314 fL) acj
abbrev OZ (x : E) : List Ob := oT cZ (.uf 321 (eP cZ (eP ED (eP eA eA)))) (oO (.o2 .le fc (.il 500000)) (oO (.o2 .le (.o1 .ab ED) (.il 20)) (oO (.uf 111 uU) (oO (.uf 111 iW) (oO (.o2 .le fc (.il 1000000)) (oO (.uf 111 iW) (oO (.uf 110 (eP m5 (eP mU (eP (eC 5 gq gf) eA)))) (oT (.uf 321 (eP cZ (eP ED (eP (.uf 167 uU) eA)))) pZ (adJ x)))))))))
abbrev Rj (x : E) : List Ob := oO (.o2 .beq (.uf 314 fL) (.uf 314 uY)) (oO (.o2 .aN eA (wP x)) (JO x))
abbrev Qi (x : E) : List Ob := oT cZ (.uf 321 (eP cZ (eP ED (eP eA eA)))) (oO (.o2 .le fc (.il 500000)) (oO (.o2 .le (.o1 .ab ED) (.il 20)) (oO (.uf 111 uU) (oO (.uf 111 iW) (oO (.o2 .le fc (.il 1000000)) (oO (.uf 111 iW) (oO (.uf 110 (eP m5 (eP mU (eP (eC 5 gq gf) eA)))) (oT (.uf 321 (eP cZ (eP ED (eP (.uf 167 uU) eA)))) pZ (Rj x)))))))))
abbrev abb : aa := fF (.o2 .aN bH (.il 2)) acL
abbrev aaj : aa := fT (.o2 .aN bH (.il 5)) abb
abbrev ad9 : aa := fT (.o2 .aN fc eA) aaj
abbrev N5 (x : E) : List Ob := oO (.uf 111 iW) (oO (.uf 110 (eP m5 (eP mU (eP (eC 5 gq gf) eA)))) (oT cZ pZ (oO (.o2 .beq (.uf 314 fL) (.uf 314 uY)) (oO (.o2 .aN (.il 99) (wP x)) (JO x)))))
abbrev sB : E := .uf 318 iW
abbrev As : E := eC 6 cZ sB
abbrev adl : aa := fF (.o2 .aN fc eA) aaj
abbrev Pe : E := eC 0 cZ sB
abbrev Qs : E := eC 1 cZ sB
abbrev aal (x : E) : List Ob := oO (.o2 .beq (.uf 314 fL) (.uf 314 uY)) (oO (.o2 .aN eA (wP x)) (oO (.o2 .beq (.bl false) (eC 1 pX x)) (oT (eP Pe (eP Qs (eP (eC 2 cZ sB) (eP (eC 3 cZ sB) (eP (eC 4 cZ sB) (eP (eC 5 cZ sB) (eP As (eP (eC 7 cZ sB) eA)))))))) (IP x) (LF x))))
abbrev Rv (x : E) : List Ob := oO (.o2 .le fc (.il 1000000)) (oO (.uf 111 iW) (oO (.uf 110 (eP Pe (eP Qs (eP (eC 4 cZ sB) eA)))) (oO (.o2 .lt sB fc) (oO (.o2 .le eA sB) (oO (.o2 .aN eA (.uf 319 (eP cZ (eP eA eA)))) (oO (.o2 .le fc (.il 1000000)) (oO (.o2 .le fc (.il 1000000)) (oO (.uf 111 iW) (oO (.uf 110 (eP m5 (eP mU (eP (eC 5 gq gf) eA)))) (oT (.uf 108 V4) pZ (aal x)))))))))))
abbrev Pp (x : E) : List Ob := oO (.o2 .le fc (.il 1000000)) (oO (.uf 111 iW) (oO (.uf 110 (eP Pe (eP Qs (eP (eC 4 cZ sB) eA)))) (oO (.o2 .lt sB fc) (oO (.o2 .le eA sB) (oO (.o2 .aN eA (.uf 319 (eP cZ (eP eA eA)))) (oO (.o2 .le fc (.il 1000000)) (oO (.o2 .le fc (.il 1000000)) (oO (.uf 111 iW) (oO (.uf 110 (eP m5 (eP mU (eP (eC 5 gq gf) eA)))) (oT (.uf 108 (eP cZ (eP (.uf 100 (eP Pe (eP Qs eA))) eA))) pZ (aal x)))))))))))
abbrev aa7 : aa := fF (.o2 .aN bH (.il 5)) abb
abbrev N1 (x : E) : List Ob := oO (.o2 .le fc (.il 1000000)) (oO (.uf 111 iW) (oO (.uf 110 (eP m5 (eP mU (eP (eC 5 gq gf) eA)))) (oT cZ pZ (oO (.o2 .beq (.uf 314 fL) (.uf 314 uY)) (oO (.o2 .aN eA (wP x)) (oO (.o2 .beq (.bl false) (eC 1 pX x)) (oT cZ (IP x) (LF x))))))))
abbrev aev : aa := fF (.o2 .aN bH (.il 6)) aa7
abbrev OY (x : E) : List Ob := oO (.o2 .le fc (.il 1000000)) (oO (.uf 111 iW) (oO (.o2 .le fc (.il 1000000)) (oO (.uf 111 iW) (oO (.uf 110 (eP m5 (eP mU (eP (eC 5 gq gf) eA)))) (oT cZ pZ (oO (.o2 .beq (.uf 314 fL) (.uf 314 uY)) (oO (.o2 .aN eA (wP x)) (oO (.o2 .beq (.bl false) (eC 1 pX x)) (oT eA (IP x) (oT (.uf 103 iW) (eC 3 pX x) (Z6 x)))))))))))
abbrev AN : E := eP cZ (eP (eC 10 gq gf) eA)
abbrev acg : aa := fF (.o2 .aN bH (.il 7)) aev
abbrev aaz : aa := fT (.o2 .aN bH (.il 10)) acg
abbrev yy : E := .uf 104 AN
abbrev QT (x : E) : List Ob := oO (.o2 .lt yy fc) (oO (.o2 .le eA yy) (oO (.o2 .le fc (.il 1000000)) (oO (.uf 111 iW) (oO (.o2 .le fc (.il 1000000)) (oO (.uf 111 iW) (oO (.uf 110 (eP m5 (eP mU (eP (eC 5 gq gf) eA)))) (oT cZ pZ (oO (.o2 .beq (.uf 314 fL) (.uf 314 uY)) (oO (.o2 .aN eA (wP x)) (oO (.o2 .beq (.bl true) (eC 1 pX x)) (oT (eP (eC 0 cZ yy) (eP (eC 1 cZ yy) (eP (eC 2 cZ yy) (eP (eC 3 cZ yy) (eP (eC 4 cZ yy) (eP (eC 5 cZ yy) (eP (eC 6 cZ yy) (eP (eC 7 cZ yy) eA)))))))) (IP x) (LF x))))))))))))
abbrev Ej (x : E) : List Ob := oO (.o2 .le fc (.il 1000000)) (oO (.uf 111 iW) (oO (.uf 110 (eP m5 (eP mU (eP (eC 5 gq gf) eA)))) (oT cZ pZ (Rj x))))
abbrev RJ (x : E) : List Ob := oO (.o2 .le fc (.il 1000000)) (oO (.uf 111 iW) (Ej x))
abbrev acr : aa := fF (.o2 .aN bH (.il 10)) acg
abbrev Ri (x : E) : List Ob := oO (.o2 .le fc (.il 1000000)) (oO (.uf 111 iW) (oO (.uf 110 (eP m5 (eP mU (eP (eC 5 gq gf) eA)))) (oT cZ pZ (oO (.o2 .beq (.bl true) (.uf 314 uY)) (oO (.o2 .aN eA (wP x)) (JO x))))))
abbrev adr : aa := fF (.uf 105 V4) ZS
abbrev aeX : aa := fF (.o2 .aN bH (.il 1)) adr
abbrev aeC : aa := fF (.o2 .aN bH (.il 3)) aeX
abbrev aei : aa := fF (.o2 .aN bH (.il 4)) aeC
abbrev Zj : aa := fF (.o2 .aN bH (.il 8)) aei
abbrev ady : aa := fT (.o2 .aN bH (.il 2)) Zj
abbrev acn : aa := fF (.uf 314 fL) ady
abbrev abX : aa := fF (.o2 .aN bH (.il 2)) Zj
abbrev aaI : aa := fT (.o2 .aN bH (.il 5)) abX
abbrev aeE : aa := fT (.o2 .aN fc eA) aaI
abbrev ab2 : aa := fF (.o2 .aN fc eA) aaI
abbrev acx : aa := fF (.o2 .aN bH (.il 5)) abX
abbrev adm : aa := fF (.o2 .aN bH (.il 6)) acx
abbrev aaC : aa := fF (.o2 .aN bH (.il 7)) adm
abbrev abw : aa := fT (.o2 .aN bH (.il 10)) aaC
abbrev ads : aa := fF (.o2 .aN bH (.il 10)) aaC
abbrev RA : E := eP cZ (eP (.uf 100 (eP m5 (eP mU eA))) eA)
abbrev Y9 : aa := fF UW (fT QK [])
abbrev ab9 : aa := fT (.uf 105 RA) Y9
abbrev adN : aa := fT (.o2 .aN bH (.il 1)) ab9
abbrev Yz (x : E) : List Ob := oO (.o2 .le fc (.il 1000000)) (oO (.uf 110 (eP m5 (eP mU (eP (eC 5 gq gf) eA)))) (oO (.uf 111 iW) (oO (.o2 .le fc (.il 1000000)) (oO (.uf 111 iW) (oO (.uf 110 (eP m5 (eP mU (eP (eC 5 gq gf) eA)))) (oT (.uf 107 (eP cZ (eP m5 (eP mU (eP (eC 3 gq gf) (eP (eC 4 gq gf) (eP (eC 5 gq gf) (eP (eC 6 gq gf) (eP UW (eP (eC 8 gq gf) eA)))))))))) pZ (Rj x)))))))
abbrev abE : aa := fF (.o2 .aN bH (.il 1)) ab9
abbrev acO : aa := fT (.o2 .aN bH (.il 3)) abE
abbrev aaM : aa := fF (.o2 .aN bH (.il 3)) abE
abbrev RX : aa := fF (.o2 .aN bH (.il 4)) aaM
abbrev qg : E := .uf 104 RA
abbrev SY : aa := fF (.o2 .aN bH (.il 8)) RX
abbrev Ts : aa := fT (.o2 .aN bH (.il 2)) SY
abbrev TK : aa := fF (.uf 314 fL) Ts
abbrev To : aa := fF (.o2 .aN bH (.il 2)) SY
abbrev SF : aa := fT (.o2 .aN bH (.il 5)) To
abbrev SK : aa := fT (.o2 .aN fc eA) SF
abbrev Sq : aa := fF (.o2 .aN fc eA) SF
abbrev St : aa := fF (.o2 .aN bH (.il 5)) To
abbrev SC : aa := fF (.o2 .aN bH (.il 6)) St
abbrev TG : aa := fF (.o2 .aN bH (.il 7)) SC
abbrev Sh : aa := fT (.o2 .aN bH (.il 10)) TG
abbrev SJ : aa := fF (.o2 .aN bH (.il 10)) TG
abbrev Ta : aa := fF (.uf 105 RA) Y9
abbrev S4 : aa := fT (.o2 .aN bH (.il 1)) Ta
abbrev Sv : aa := fF (.o2 .aN bH (.il 1)) Ta
abbrev S1 : aa := fT (.o2 .aN bH (.il 3)) Sv
abbrev Sl : aa := fF (.o2 .aN bH (.il 3)) Sv
abbrev Tw : aa := fF (.o2 .aN bH (.il 4)) Sl
abbrev TI : aa := fF (.o2 .aN bH (.il 8)) Tw
abbrev R4 : aa := fT (.o2 .aN bH (.il 2)) TI
abbrev SI : aa := fF (.uf 314 fL) R4
abbrev TQ : aa := fF (.o2 .aN bH (.il 2)) TI
abbrev Sr : aa := fT (.o2 .aN bH (.il 5)) TQ
abbrev R6 : aa := fT (.o2 .aN fc eA) Sr
abbrev TJ : aa := fF (.o2 .aN fc eA) Sr
abbrev Sf : aa := fF (.o2 .aN bH (.il 5)) TQ
abbrev SM : aa := fF (.o2 .aN bH (.il 6)) Sf
abbrev SW : aa := fF (.o2 .aN bH (.il 7)) SM
abbrev RQ : aa := fT (.o2 .aN bH (.il 10)) SW
abbrev Tz : aa := fF (.o2 .aN bH (.il 10)) SW
def hsG (x : E) : List (aa × List Ob) :=
 [(fT (.o2 .aN bH (.il 1)) ab5, CH x),
  (fT (.o2 .aN bH (.il 3)) acT, CH x),
  (fT (.o2 .aN bH (.il 4)) abS, CH x),
  (fT (.o2 .aN bH (.il 8)) aec, CH x),
  (fT (.uf 314 fL) acj, CI x),
  (fT (.uf 166 uU) abG, OZ x),
  (fF (.uf 166 uU) abG, Qi x),
  (fT (.uf 314 fL) ad9, Kd x),
  (fF (.uf 314 fL) ad9, N5 x),
  (fT As adl, Rv x),
  (fF As adl, Pp x),
  (fT (.o2 .aN bH (.il 6)) aa7, N1 x),
  (fT (.o2 .aN bH (.il 7)) aev, OY x),
  (fT (.uf 105 AN) aaz, QT x),
  (fF (.uf 105 AN) aaz, RJ x),
  (fT (.o2 .aN bH (.il 9)) acr, Ri x),
  (fF (.o2 .aN bH (.il 9)) acr, Ej x),
  (fT (.o2 .aN bH (.il 1)) adr, CH x),
  (fT (.o2 .aN bH (.il 3)) aeX, CH x),
  (fT (.o2 .aN bH (.il 4)) aeC, CH x),
  (fT (.o2 .aN bH (.il 8)) aei, CH x),
  (fT (.uf 314 fL) ady, CI x),
  (fT (.uf 166 uU) acn, OZ x),
  (fF (.uf 166 uU) acn, Qi x),
  (fT (.uf 314 fL) aeE, Kd x),
  (fF (.uf 314 fL) aeE, N5 x),
  (fT As ab2, Rv x),
  (fF As ab2, Pp x),
  (fT (.o2 .aN bH (.il 6)) acx, N1 x),
  (fT (.o2 .aN bH (.il 7)) adm, OY x),
  (fT (.uf 105 AN) abw, QT x),
  (fF (.uf 105 AN) abw, RJ x),
  (fT (.o2 .aN bH (.il 9)) ads, Ri x),
  (fF (.o2 .aN bH (.il 9)) ads, Ej x),
  (fT (.uf 314 fL) adN, CI x),
  (fF (.uf 314 fL) adN, Yz x),
  (fT (.uf 314 fL) acO, CI x),
  (fF (.uf 314 fL) acO, Ej x),
  (fT (.o2 .aN bH (.il 4)) aaM, oO (.o2 .le fc (.il 1000000)) (oO (.uf 111 iW) (oO (.o2 .le fc (.il 1000000)) (oO (.uf 111 iW) (oO (.uf 110 (eP m5 (eP mU (eP (eC 5 gq gf) eA)))) (oT (.uf 108 RA) pZ (Rj x))))))),
  (fT (.o2 .aN bH (.il 8)) RX, oO (.o2 .lt qg fc) (oO (.o2 .le eA qg) (oO (.o2 .le fc (.il 1000000)) (oO (.uf 111 iW) (oO (.uf 110 (eP m5 (eP mU (eP (eC 5 gq gf) eA)))) (oT cZ pZ (oO (.o2 .beq (.uf 314 fL) (.uf 314 uY)) (oO (.o2 .aN eA (wP x)) (oO (.o2 .beq (.bl true) (eC 1 pX x)) (oT (eP (eC 0 cZ qg) (eP (eC 1 cZ qg) (eP (eC 2 cZ qg) (eP (eC 3 cZ qg) (eP (eC 4 cZ qg) (eP (eC 5 cZ qg) (eP (eC 6 cZ qg) (eP (eC 7 cZ qg) eA)))))))) (IP x) (LF x))))))))))),
  (fT (.uf 314 fL) Ts, CI x),
  (fT (.uf 166 uU) TK, OZ x),
  (fF (.uf 166 uU) TK, Qi x),
  (fT (.uf 314 fL) SK, Kd x),
  (fF (.uf 314 fL) SK, N5 x),
  (fT As Sq, Rv x),
  (fF As Sq, Pp x),
  (fT (.o2 .aN bH (.il 6)) St, N1 x),
  (fT (.o2 .aN bH (.il 7)) SC, OY x),
  (fT (.uf 105 AN) Sh, QT x),
  (fF (.uf 105 AN) Sh, RJ x),
  (fT (.o2 .aN bH (.il 9)) SJ, Ri x),
  (fF (.o2 .aN bH (.il 9)) SJ, Ej x),
  (fT (.uf 314 fL) S4, CI x),
  (fF (.uf 314 fL) S4, Yz x),
  (fT (.uf 314 fL) S1, CI x),
  (fF (.uf 314 fL) S1, Yz x),
  (fT (.o2 .aN bH (.il 4)) Sl, oO (.o2 .le fc (.il 1000000)) (oO (.uf 111 iW) (oO (.uf 110 (eP m5 (eP mU (eP (eC 5 gq gf) eA)))) (oT cZ pZ (oO (.o2 .beq (.uf 314 fL) (.uf 314 uY)) (oO (.o2 .aN (.il 14) (wP x)) (JO x))))))),
  (fT (.o2 .aN bH (.il 8)) Tw, Ej x),
  (fT (.uf 314 fL) R4, CI x),
  (fT (.uf 166 uU) SI, OZ x),
  (fF (.uf 166 uU) SI, Qi x),
  (fT (.uf 314 fL) R6, Kd x),
  (fF (.uf 314 fL) R6, N5 x),
  (fT As TJ, Rv x),
  (fF As TJ, Pp x),
  (fT (.o2 .aN bH (.il 6)) Sf, N1 x),
  (fT (.o2 .aN bH (.il 7)) SM, OY x),
  (fT (.uf 105 AN) RQ, QT x),
  (fF (.uf 105 AN) RQ, RJ x),
  (fT (.o2 .aN bH (.il 9)) Tz, Ri x),
  (fF (.o2 .aN bH (.il 9)) Tz, Ej x)]
def Vx : List (aa × List Ob) :=
 hsG (.il 0) ++ [(fF QK [], oT eA pX [])]
def UA : List (aa × List Ob) :=
 hsG (.v 2212) ++ [(fF QK [], oO (.o2 .le gf (.o1 .ab pX)) (oT (.o2 .cJ pX gf) pX []))]
end Go.Proofs.YtdlppkhmmclipaaGreat.sxObj
namespace Go.Proofs.YtdlppkhmmclipaaGreat.sxObj
open Go.Sx Go.RowKit Go.Proofs.YtdlppkhmmclipaaGreat
set_option linter.unusedVariables false
set_option linter.unusedSimpArgs false
set_option maxRecDepth 100000
set_option maxHeartbeats 4000000
theorem least_le {l : Dv} : ∀ n, bL l n <= n
 | 0 => Nat.le_refl _
 | n + 1 => by
   unfold bL; split
   ·omega
   ·exact Nat.le_succ_of_le (least_le n)
theorem PC {l : Dv} {n : Nat} (h : dq (cc (row l n) 5).S (cc (row l (bL l n)) 5).S = true) : bL l (n + 1) = n := by
 show (if _ then _ else _) = _
 rw [if_pos h]
theorem Ry {l : Dv} {n : Nat} (h : dq (cc (row l n) 5).S (cc (row l (bL l n)) 5).S = false) : bL l (n + 1) = bL l n := by
 show (if _ then _ else _) = _
 rw [if_neg (by rw [h]; exact fun q => by cases q)]
theorem WX {r : Row} (h : (cc r 6).B = true) : kS r = ⟨#[]⟩ := by
 unfold kS bad; rw [if_pos h]
theorem tP {S : List Row} (go : dH S) (h : ¬ ((S.length : Nat) : Int) = 0) : jg (row (.t S) (bL (.t S) S.length)) := go _ (eb (d := .t S) (jw _ (by omega)))
theorem RL {Q : Nat -> Prop} {n r : Nat} (hr : r <= gN Q n) (h : ¬ Q r) : gN Q n = r := by
 rcases Nat.lt_or_ge r (gN Q n) with q | q
 ·have h2 := bJ (show r < stop (fun j => !dec (Q j)) n from q); rw [Bool.not_eq_false'] at h2; exact absurd (al.1 h2) h
 ·omega
section
variable {o : Env}
theorem Yf (hj : OJ o) {r : Nat} (hr : o.v 2210 = .i r) (hle : (r : Int) <= ((aB (.v 7790)).den o).I) : bo o leL := by
 simp only [cP, aB, pk, List.foldr, SS, implies_true] at hle; simp only [leL, af, au, and_true]
 and_intros
 all_goals intro h
 all_goals simp only [SS, implies_true, hr, hj.hp] at h ⊢
 ·have := @least_le (o.v 7790) r; refine ⟨by omega, by omega, ?_⟩
  rw [PC h.1]
 ·have := @least_le (o.v 7790) r; refine ⟨by omega, by omega, ?_⟩
  rw [Ry h.1]
 ·have e : r = (o.v 7790).T.length := by omega
  rw [e]
theorem LB {S : List Row} {l : Dv} : ∀ n, (Pc S l n).length <= S.length + n
 | 0 => Nat.le_refl _
 | n + 1 => by
   have ih := @LB S l n; have := @CX (.t (Pc S l n)) (ju (cc (row l n) 0).S (cc (row l n) 1).S) (eight (row l n)); simp only [Tx] at this; show (ez _ _ _).length <= _; omega
theorem Tg {S : List Row} {l : Dv} (h : dH S) (hl : dH l.T) : ∀ n, n <= l.T.length -> dH (Pc S l n)
 | 0, _ => h
 | n + 1, hn => O7 (l := .t _) (Tg h hl n (by omega)) (cF hl (by omega))
theorem T7 (hu : OU o) (hj : OJ o) {r : Nat} (hr : o.v 2211 = .i r) (hent : (hdY.aU 0).ay o) (hle : (r : Int) <= ((E.uf 167 (pk [.v 7792])).den o).I) : bo o hdL := by
 simp only [hdY, hdF, u9, cP, aB, pk, List.foldr, SS, implies_true, hu.m8, hu.Jc, al] at hent hle; obtain ⟨k1, k2, l1, l2⟩ := hent; have hg : gN (qb (o.v 7792)) (o.v 7792).T.length <= (o.v 7792).T.length := ke; simp only [hdL, af, au, and_true]
 and_intros
 all_goals intro h
 all_goals simp only [SS, implies_true, hr, hj.hp, hu.Kg, hu.jt, hu.m8, hu.OX, hu.Jc, al, cD, Classical.not_not] at h ⊢
 ·have hb : ¬ qb (o.v 7792) r := fun q => by unfold qb at q; rw [h.1] at q; cases q
  refine ⟨ir (r := r) (by omega) hb, cF k2 (by omega), ?_⟩
  rw [RL (by omega) hb]
 ·have := uL (show r <= gN (qb (o.v 7792)) (o.v 7792).T.length by omega) (by omega) h.1
  have hl := @LB (o.v 7791).T (o.v 7792) r; exact ⟨by omega, by omega, cF k2 (by omega), Tg k1 k2 r (by omega), cF k2 (by omega), rfl⟩
 ·refine ⟨qn (r := r) (by omega) (by omega), ?_⟩
  rw [show r = gN (qb (o.v 7792)) (o.v 7792).T.length by omega]
theorem G3 (hu : OU o) (hj : OJ o) {r : Nat} (hr : o.v 2212 = .i r) (hent : (Hf.aU 0).ay o) (hle : (r : Int) <= ((aB (.v 7795)).den o).I) {x : E} (hx : x.den o = .i r) : bo o (hsG x) := by
 simp only [Hf, Ch, cP, aB, pk, List.foldr, SS, implies_true, hj.hp, al] at hent hle; obtain ⟨hf, hlen⟩ := hent; obtain ⟨gg, go, gl, gv, gr, gn, gb, gi, ga⟩ := lE hf r (by omega)
 simp only [hsG, af, au, and_true]
 and_intros
 all_goals intro h
 all_goals simp only [SS, implies_true, hr, hx, hu.mB, hu.Mg, hu.BL, hu.F7, hu.Kg, hu.Qf, hu.jt, hu.m8, hu.OX, hu.Jc, hj.hp, al, cD, Classical.not_not] at h ⊢
 all_goals (repeat (have b := h.1; replace h := h.2))
 all_goals have hl : r < (o.v 7795).T.length := by omega
 all_goals have hA := wJ hl
 all_goals have hS : gU (o.v 7795) (r + 1) = (bM (row (o.v 7795) r) (gU (o.v 7795) r)).1 := rfl
 all_goals obtain ⟨⟨k0, k1, k2⟩, p2, p3⟩ := hf.1 r hl
 all_goals generalize gU (o.v 7795) r = s at *
 all_goals generalize row (o.v 7795) r = p at *
 all_goals generalize hq : bM p s = z at *
 all_goals first
  | have hb : (cc p 7).B = true := by assumption
  | have hb : (cc p 7).B = false := by assumption
  | have hb : True := trivial
 all_goals unfold bM at hq
 all_goals (repeat first
  | rw [if_pos (⟨by omega, hb⟩ : (_ \/ _ \/ _ \/ _) /\ _ = true)] at hq
  | rw [if_neg (fun q => by have q1 := q.1; have q2 := q.2; first | omega | (rw [hb] at q2; cases q2))] at hq
  | rw [if_pos (by omega)] at hq
  | rw [if_neg (by omega)] at hq
  | rw [if_pos (by assumption)] at hq
  | rw [if_neg (fun q => Bool.noConfusion (q.symm.trans (show _ = false by assumption)))] at hq
  | rw [if_pos (List.length_eq_zero_iff.1 (by omega))] at hq
  | rw [if_neg (fun q => by have := congrArg List.length q; simp only [List.length_nil] at this; omega)] at hq
  | rw [if_pos (al.2 (by assumption))] at hq
  | rw [if_neg (fun q => absurd (al.1 q) (by assumption))] at hq)
 all_goals subst hq
 all_goals simp only [hA, hS]
 all_goals repeat' refine And.intro ?_ ?_
 all_goals first
  | rfl | trivial | assumption | omega
  | exact ⟨k0, k1, k2⟩
  | exact List.Perm.refl _
  | exact (tP go (by omega)).1
  | exact (tP go (by omega)).2.1
  | exact (tP go (by omega)).2.2
  | exact Int.ofNat_lt.2 (jw _ (by omega))
  | exact congrArg (fun z => [z]) (gg.e _ (eb (d := .t s.S) (jw _ (by omega))))
  | exact congrArg (fun z => [z]) (gg.e _ (eb (d := .t s.S) (mK (k := (cc p 10).S) (by assumption)).1))
  | exact congrArg (fun z => [z]) (gg.e _ (eb (d := .t s.S) (mK (k := bd p) (by assumption)).1))
  | exact Int.ofNat_lt.2 (mK (k := (cc p 10).S) (by assumption)).1
  | exact Int.ofNat_lt.2 (mK (k := bd p) (by assumption)).1
  | (rw [WX (r := row (.t s.S) (bL (.t s.S) s.S.length)) (by assumption)]; done)
  | (rw [mX (r := row (.t s.S) (bL (.t s.S) s.S.length)) (by assumption)]; done)
theorem RO (hu : OU o) (hj : OJ o) {r : Nat} (hr : o.v 2212 = .i r) (hent : (Hf.aU 0).ay o) (hle : (r : Int) <= ((aB (.v 7795)).den o).I) : bo o UA := by
 refine n5 (G3 hu hj hr hent hle hr) ?_; simp only [Hf, Ch, cP, aB, pk, List.foldr, SS, implies_true, hj.hp, al] at hent hle; obtain ⟨hf, hlen⟩ := hent; obtain ⟨gg, go, gl, gv, gr, gn, gb, gi, ga⟩ := lE hf r (by omega)
 simp only [af, au, and_true]; intro h
 all_goals simp only [SS, implies_true, hr, hu.mB, hu.Mg, hu.BL, hu.F7, hu.Kg, hu.Qf, hu.jt, hu.m8, hu.OX, hu.Jc, hj.hp, al, cD, Classical.not_not] at h ⊢
 exact ⟨by rw [kX]; omega, eH (by rw [kX]; omega)⟩
theorem OD (hu : OU o) (hj : OJ o) {r : Nat} (hr : o.v 2212 = .i r) (hent : (Hf.aU 0).ay o) (hmf : (Hf.mf 0).ay o) (hle : (r : Int) <= ((aB (.v 7795)).den o).I) : bo o Vx := by
 have hmf : aa.ay o [(.o2 .aN (.v 2212) (.il 0), true)] := hmf; simp only [SS, implies_true, hr] at hmf; have hr0 : r = 0 := by omega
 refine n5 (G3 hu hj hr hent hle (by rw [hr0]; rfl)) ?_
 simp only [Hf, Ch, cP, aB, pk, List.foldr, SS, implies_true, hj.hp, al] at hent hle; obtain ⟨hf, hlen⟩ := hent; obtain ⟨gg, go, gl, gv, gr, gn, gb, gi, ga⟩ := lE hf r (by omega)
 simp only [af, au, and_true]; intro h
 all_goals simp only [SS, implies_true, hr, hu.mB, hu.Mg, hu.BL, hu.F7, hu.Kg, hu.Qf, hu.jt, hu.m8, hu.OX, hu.Jc, hj.hp, al, cD, Classical.not_not] at h ⊢
 have : (kH (o.v 7795)).length = 0 := by rw [kX]; omega
 exact (List.length_eq_zero_iff.1 this).symm
end
def YS (l : Dv) (j : Nat) : Prop := JD (cc (row l j) 1) (cc (row l j) 2) (cc (row l j) 3) (cc (row l j) 4) (cc (row l j) 5) (cc (row l j) 6) /\ tk (cc (row l j) 9) /\ (cc (row l j) 10).S.size <= 2147483647
def Bk (l : Dv) : Prop := ee (YS l) l.T.length /\ l.T.length <= 2147483647
def YY (l : Dv) (j : Nat) : Prop := 1 <= (cc (row l j) 0).I /\ (cc (row l j) 0).I <= 10 /\ small (cc (row l j) 1) (cc (row l j) 2) (cc (row l j) 3) (cc (row l j) 4) (cc (row l j) 5) (cc (row l j) 6) (cc (row l j) 8) /\ vX (cc (row l j) 9) /\ (cc (row l j) 10).S.size <= 41
def AF (l : Dv) : Prop := ee (YY l) l.T.length /\ l.T.length <= 80
noncomputable def adt (c : Nat) (d : Dv) : Dv :=
 match c with
 | 330 => .b (dec (¬ ee (YS (ar d 0)) (ar d 0).T.length))
 | 331 => .i (gN (YS (ar d 0)) (ar d 0).T.length : Nat)
 | 332 => .b (dec (Bk (ar d 0)))
 | 333 => .b (dec (¬ ee (YY (ar d 0)) (ar d 0).T.length))
 | 334 => .i (gN (YY (ar d 0)) (ar d 0).T.length : Nat)
 | 335 => .b (dec (AF (ar d 0)))
 | _ => .i 0
def OG (o : Env) : Prop := ∀ c d, 330 <= c -> c < 340 -> o.uf c d = adt c d
theorem OG.az {o o' : Env} (h : OG o) (e : o'.uf = o.uf) : OG o' := fun c d h1 h2 => by rw [e]; exact h c d h1 h2
theorem OG.all {o : Env} (h : OG o) : (∀ d, o.uf 330 d = .b (dec (¬ ee (YS (ar d 0)) (ar d 0).T.length))) /\ (∀ d, o.uf 331 d = .i (gN (YS (ar d 0)) (ar d 0).T.length : Nat)) /\ (∀ d, o.uf 332 d = .b (dec (Bk (ar d 0)))) /\
    (∀ d, o.uf 333 d = .b (dec (¬ ee (YY (ar d 0)) (ar d 0).T.length))) /\ (∀ d, o.uf 334 d = .i (gN (YY (ar d 0)) (ar d 0).T.length : Nat)) /\ (∀ d, o.uf 335 d = .b (dec (AF (ar d 0)))) :=
 ⟨fun d => h 330 d (by decide) (by decide), fun d => h 331 d (by decide) (by decide), fun d => h 332 d (by decide) (by decide), fun d => h 333 d (by decide) (by decide), fun d => h 334 d (by decide) (by decide), fun d => h 335 d (by decide) (by decide)⟩
def w6 : Nat := 7
def qM : Nat := 8
def xk : Nat := 12
def RF : ak := NS w6 4 18 2 QQ 8 10 ([4] ++ jX 11 18) 0 7850 2220 330 331 (⟨[(Je, WI.aS), (ud, M9.aS)], []⟩ : gW).x
def Q1 : cA := sG w6 [.bR QQ (.v 7851)] [7851] [] 332 [.v 7851] (⟨[], [(w6, 4, RF.cW)]⟩ : gW).x
def H8 : ak := NS qM 2 41 2 QQ 5 7 ([4] ++ jX 8 38) 0 7852 2221 333 334 (⟨[(l5, QH.aS), (ly, LD.aS)], []⟩ : gW).x [] [] [] [] [(.uf 332 (pk [.v 7852]), true)]
def Q4 : cA := sG qM [.bR QQ (.v 7853)] [7853] [(.uf 332 (pk [.v 7853]), true)] 335 [.v 7853] (⟨[], [(qM, 2, H8.cW)]⟩ : gW).x
def Ox : gW := ⟨[], [(Bv, 4, HW.cW)]⟩
def Gx : cA where
 f := 10
 args := [.bR QQ (.v 7856)]
 params := [7856]
 aU := [(.uf 316 (pk [.v 7856]), true), cP (aB (.v 7856)) (.il 2000)]
 app := fun _ => true
 bp := [(.bl true, 0)]
 kind := fun _ => some 0
 out := fun _ => .bR J0 (.uf 315 (pk [.v 7856]))
 X := Ox.x
 fuel := 400; np := 500
 IQ := [(Tp, PL)]
def O6 : cA where
 f := xk
 args := []
 params := []
 aU := []
 app := fun _ => true
 bp := [(.bl true, 0)]
 kind := fun _ => some 0
 out := fun _ => .bool (.bl true)
 X := Ox.x
 fuel := 1000; np := 800
 IQ := [(Tp, PL)]
def Ut : gW := ⟨[(w6, Q1.aS), (qM, Q4.aS), (qV, saF.aS), (xk, O6.aS), (10, Gx.aS)], [(B1, 5, Hf.cW)]⟩
def aau : List PK := [.bR QQ]
end Go.Proofs.YtdlppkhmmclipaaGreat.sxObj
namespace Go.Proofs.YtdlppkhmmclipaaGreat.sxObj
open Go.Sx
set_option linter.unusedVariables false
set_option maxRecDepth 100000
abbrev Ke : E := .v 7850
abbrev NP : E := .v 2220
abbrev ou2 : E := .o2 .lt (.il 2147483647) (.o1 .size (eC 10 Ke NP))
abbrev mY : E := .il 0
abbrev ou4 : E := .uf 139 (eP (eC 9 Ke NP) mY)
abbrev ou5 : E := .uf 136 (eP (eC 1 Ke NP) (eP (eC 2 Ke NP) (eP (eC 3 Ke NP) (eP (eC 4 Ke NP) (eP (eC 5 Ke NP) (eP (eC 6 Ke NP) mY))))))
abbrev ou6 : E := .o2 .lt NP (.o1 .ab Ke)
abbrev ou7 : aa := fT ou5 (fT ou6 [])
abbrev ou8 : E := .uf 330 (eP Ke mY)
def NC : List (aa × List Ob) :=
 [(fT ou2 (fT ou4 ou7), oO ou8 []),
  (fF ou2 (fT ou4 ou7), oO (.o2 .lt NP (.uf 331 (eP Ke mY))) []),
  (fF ou4 ou7, oO ou8 []),
  (fF ou5 (fT ou6 []), oO ou8 []),
  (fF ou6 [], oO (.o1 .not ou8) [])]
abbrev ou9 : E := .o2 .lt (.il 2147483647) (.o1 .ab (.v 7851))
abbrev Ac : E := .bl false
abbrev abt : E := .uf 332 (eP (.v 7851) mY)
abbrev Z7 : List Ob := oO (.o2 .beq Ac abt) []
abbrev aeT : E := .uf 330 (eP (.v 7851) mY)
def UZ : List (aa × List Ob) :=
 [(fT ou9 [], Z7),
  (fT aeT (fF ou9 []), Z7),
  (fF aeT (fF ou9 []), oO (.o2 .beq (.bl true) abt) [])]
abbrev lT : E := .v 7852
abbrev l9 : E := .v 2221
abbrev ZP : E := .o2 .lt (eC 0 lT l9) (.il 1)
abbrev U0 : E := .o2 .lt l9 (.o1 .ab lT)
abbrev Mx : E := .uf 333 (eP lT mY)
abbrev VK : E := .o2 .lt (.il 10) (eC 0 lT l9)
abbrev Uq : aa := fF ZP (fT U0 [])
abbrev aes : E := .o2 .lt (.il 41) (.o1 .size (eC 10 lT l9))
abbrev OL : E := eP (eC 9 lT l9) mY
abbrev aaF : E := .uf 150 (eP (eC 1 lT l9) (eP (eC 2 lT l9) (eP (eC 3 lT l9) (eP (eC 4 lT l9) (eP (eC 5 lT l9) (eP (eC 6 lT l9) (eP (eC 7 lT l9) (eP (eC 8 lT l9) mY))))))))
abbrev ac3 : aa := fT aaF (fF VK Uq)
abbrev ada : aa := fT (.uf 153 OL) ac3
abbrev Yq : List Ob := oO (.uf 136 (eP (eC 1 lT l9) (eP (eC 2 lT l9) (eP (eC 3 lT l9) (eP (eC 4 lT l9) (eP (eC 5 lT l9) (eP (eC 6 lT l9) mY))))))) []
abbrev ZV : List Ob := oO Mx (oO (.uf 139 OL) Yq)
def Kq : List (aa × List Ob) :=
 [(fT ZP (fT U0 []), oO Mx []),
  (fT VK Uq, oO Mx []),
  (fT aes ada, ZV),
  (fF aes ada, oO (.o2 .lt l9 (.uf 334 (eP lT mY))) (oO (.o2 .le (.o2 .add l9 (.il 1)) (.il 9223372036854775807)) (oO (.uf 139 OL) Yq))),
  (fF (.uf 153 OL) ac3, ZV),
  (fF aaF (fF VK Uq), oO Mx Yq),
  (fF U0 [], oO (.o1 .not Mx) [])]
abbrev Zp : E := .uf 333 (eP (.v 7853) mY)
abbrev abc : E := .uf 335 (eP (.v 7853) mY)
def Vk : List (aa × List Ob) :=
 [(fT Zp [], oO (.o2 .beq Ac abc) []),
  (fF Zp [], oO (.o2 .beq (.o2 .le (.o1 .ab (.v 7853)) (.il 80)) abc) [])]
abbrev Ct : E := eP (.v 0) mY
abbrev Zl : aa := fT (.o2 .le (.o1 .ab (.v 0)) (.il 9223372036854775807)) []
abbrev aer : aa := fT (.uf 332 Ct) Zl
abbrev Oe : E := eP mY mY
def Um : List (aa × List Ob) :=
 [(fT (.uf 335 Ct) aer, oO (.bl true) (oO (.uf 132 (eP (.uf 315 Ct) mY)) (oO (.o2 .le (.o1 .ab (.uf 315 Ct)) (.il 2147483647)) (oO (.o2 .beq Ac (.uf 314 (eP (.v 0) Oe))) (oT mY (.uf 320 (eP (.v 0) Oe)) (oO (.o2 .le (.o1 .ab (.v 0)) (.il 2000)) (oO (.uf 316 Ct) (oO (.o2 .le (.o1 .ab (.v 0)) (.il 2000)) (oO (.uf 316 Ct) []))))))))),
  (fF (.uf 335 Ct) aer, oO (.bl true) []),
  (fF (.uf 332 Ct) Zl, oO (.bl true) [])]
abbrev J7 : E := eP (.v 7856) Oe
def LZ : List (aa × List Ob) :=
 [([], oO (.o2 .beq Ac (.uf 314 J7)) (oO (.o2 .aN mY (.uf 311 J7)) (oT mY (.uf 312 J7) (oO (.o2 .aN (.o1 .ab (.uf 310 J7)) mY) (oT mY (.uf 313 J7) [])))))]
abbrev uS : E := .sl []
abbrev VW : E := eP Ac (eP Ac (eP mY (eP uS mY)))
abbrev OQ : E := .o2 .fS (eP (.il 1) (eP uS (eP (.sl [97]) (eP uS (eP uS (eP mY (eP (.sl [50]) VW))))))) (.o2 .fS (eP (.il 1) (eP uS (eP (.sl [98]) (eP uS (eP uS (eP mY (eP (.sl [49]) VW))))))) (eP (.il 5) (eP uS (eP uS (eP uS (eP uS (eP mY (eP uS VW))))))))
abbrev W7 : E := .uf 315 (eP OQ mY)
abbrev ab7 : E := .o2 .aN (.o1 .ab (eC 2 W7 (.il 2))) (.il 1)
abbrev VA : E := .o2 .aN (.o1 .ab W7) (.il 3)
abbrev yL : E := eP OQ Oe
abbrev Zv : List Ob := oO (.o2 .beq Ac (.uf 314 yL)) (oO (.o2 .aN mY (.uf 311 yL)) (oT mY (.uf 312 yL) (oO (.o2 .aN (.o1 .ab (.uf 310 yL)) mY) (oT mY (.uf 313 yL) (oO (.uf 316 (eP OQ mY)) (oO (.o2 .beq Ac (.bl true)) []))))))
def Wq : List (aa × List Ob) :=
 [(fT ab7 (fT VA []), oO (.o2 .beq Ac (.uf 314 yL)) (oO (.o2 .aN mY (.uf 311 yL)) (oT mY (.uf 312 yL) (oO (.o2 .aN (.o1 .ab (.uf 310 yL)) mY) (oT mY (.uf 313 yL) (oO (.uf 316 (eP OQ mY)) (oO (.o2 .beq (.o2 .seq (eC 1 (eC 2 W7 (.il 2)) mY) (.sl [98])) (.bl true)) []))))))),
  (fF ab7 (fT VA []), Zv),
  (fF VA [], Zv)]
end Go.Proofs.YtdlppkhmmclipaaGreat.sxObj
namespace Go.Proofs.YtdlppkhmmclipaaGreat.sxObj
open Go.Sx Go.RowKit Go.Proofs.YtdlppkhmmclipaaGreat
set_option linter.unusedVariables false
set_option linter.unusedSimpArgs false
set_option maxRecDepth 100000
def vq (q : NU × Row) : Prop := qH q.2
theorem ng {c : Prop} [d : Decidable c] {t e : NU × Row} (h1 : c -> vq t) (h2 : ¬ c -> vq e) : vq (if c then t else e) := by
 cases d with
 | isTrue h => exact h1 h
 | isFalse h => exact h2 h
theorem KI {s : NU} {m : Nat} {p : Row} (G : yx s.S s.h m) (hm : m <= 100000) : qH (bM p s).2 := by
 have hl := G.l; have none : ∀ {e : Int} {b : Bool}, qH (aY e b [] []) := fun {e b} => ⟨kL, Nat.zero_le _, Nat.zero_le _⟩
 have one : ∀ {b : Bool} {n : Nat}, n < s.S.length -> qH (aY 0 b [row (.t s.S) n] []) := fun {b n} hn => ⟨fun r hr => by
  have hr : r ∈ [row (.t s.S) n] := hr; rw [List.mem_singleton] at hr; rw [hr]
  exact G.o _ (eb (d := .t s.S) hn), (by decide : 1 <= 2147483647), Nat.zero_le _⟩
 show vq _; unfold bM; refine ng (fun _ => none) fun _ => ?_; refine ng (fun _ => ng (fun _ => none) fun _ => none) fun _ => ?_; refine ng (fun _ => ng (fun _ => none) fun _ => ng (fun _ => none) fun _ => none) fun _ => ?_; refine ng (fun _ => ng (fun _ => none) fun _ => none) fun _ => ?_; refine ng (fun _ => ng (fun _ => none) fun _ => none) fun _ => ?_; refine ng (fun _ => ng (fun _ => none) fun h => one (jw _ (Nat.pos_of_ne_zero fun q => h (List.length_eq_zero_iff.1 q)))) fun _ => ?_; refine ng (fun _ => ⟨G.o, by show s.S.length <= _; omega, Nat.zero_le _⟩) fun _ => ?_
 refine ng (fun _ => ⟨kL, Nat.zero_le _, by show (s.S.map bP).length <= _; rw [List.length_map]; omega⟩) fun _ => ?_
 refine ng (fun _ => ng (fun h => one (mK h).1) fun _ => none) fun _ => ?_; refine ng (fun _ => ng (fun h => one (mK h).1) fun _ => none) fun _ => ?_; exact ng (fun _ => none) fun _ => none
theorem JX {ops : Dv} (h : sY ops) : ∀ r ∈ kH ops, qH r := fun r hr => by
 obtain ⟨n, hn, rfl⟩ := List.mem_map.1 hr; have hn := List.mem_range.1 hn; have := h.2; exact KI (lE h n (by omega)) (by omega)
theorem NA {l : Dv} (h1 : Bk l) (h2 : AF l) : sY l := ⟨fun j hj => by
 obtain ⟨⟨a, b, _, _, c, _⟩, d, _⟩ := h1.1 j hj
 exact ⟨⟨a, b, c.2⟩, Jq d, (h2.1 j hj).2.2.2.1.2⟩, Nat.le_trans h2.2 (by decide)⟩
def yM : Row := [.i 1, .s ⟨[].toArray⟩, .s ⟨[97].toArray⟩, .s ⟨[].toArray⟩, .s ⟨[].toArray⟩, .i 0, .s ⟨[50].toArray⟩, .b false, .b false, .i 0, .s ⟨[].toArray⟩]
def EO : Row := [.i 1, .s ⟨[].toArray⟩, .s ⟨[98].toArray⟩, .s ⟨[].toArray⟩, .s ⟨[].toArray⟩, .i 0, .s ⟨[49].toArray⟩, .b false, .b false, .i 0, .s ⟨[].toArray⟩]
def awC : Row := [.i 5, .s ⟨[].toArray⟩, .s ⟨[].toArray⟩, .s ⟨[].toArray⟩, .s ⟨[].toArray⟩, .i 0, .s ⟨[].toArray⟩, .b false, .b false, .i 0, .s ⟨[].toArray⟩]
def Lc : Dv := .t [yM, EO, awC]
def awS : List Row := ez (.t (ez (.t []) (bd yM) (dD yM))) (bd EO) (dD EO)
theorem Z0 : (gU Lc 2).S = awS /\ (gU Lc 2).c = false := by
 have e1 : gU Lc 1 = ⟨ez (.t []) (bd yM) (dD yM), false, fq ⟨[], 0, [], []⟩ (gY yM) (dO yM)⟩ := by
  show (bM yM ⟨[], false, ⟨[], 0, [], []⟩⟩).1 = _; rw [JJ rfl rfl, if_neg (fun q => by cases q)]
 have e2 : gU Lc 2 = (bM EO (gU Lc 1)).1 := rfl; rw [e2, e1, JJ rfl rfl, if_neg (fun q => by cases q)]
 exact ⟨rfl, rfl⟩
theorem Hd {a b : List UInt8} (h : a < b) : dq ⟨a.toArray⟩ ⟨b.toArray⟩ = true := by
 rw [uC, toList_data, toList_data, decide_eq_true_eq]; exact h
theorem afQ : awS = [dD yM, dD EO] := by
 have e0 : ez (.t []) (bd yM) (dD yM) = [dD yM] := rfl
 have e1 : iI (.t [dD yM]) (bd EO) = 1 := by
  show stop (J2 (.t [dD yM]) (bd EO)) 1 = 1; unfold stop; rw [if_neg]
  ·rfl
  ·show ¬ (!dq (kS (dD yM)) (bd EO)) = true; rw [show dq (kS (dD yM)) (bd EO) = true from Hd (a := [97]) (b := [98]) (by decide)]
   decide
 have e2 : hY (.t [dD yM]) (bd EO) = false := by
  unfold hY; rw [e1]; rfl
 unfold awS; rw [e0]; unfold ez; rw [e1, e2]; rfl
theorem Ko : bL (.t [dD yM, dD EO]) 2 = 1 := by
 have e1 : bL (.t [dD yM, dD EO]) 1 = 0 := by
  unfold bL; split <;> rfl
 unfold bL; rw [e1, if_pos]; exact Hd (a := [49]) (b := [50]) (by decide)
theorem Yp : row (.t (kH Lc)) 2 = aY 0 false [dD EO] [] := by
 obtain ⟨a, b⟩ := Z0; rw [afQ] at a; rw [wJ (show 2 < Lc.T.length by decide), show row Lc 2 = awC from rfl, Qx rfl, if_neg, a]
 ·show aY 0 false [row (.t [dD yM, dD EO]) (bL (.t [dD yM, dD EO]) 2)] [] = _; rw [Ko]; rfl
 ·rw [a]; exact fun q => by cases q
theorem abp : Dv.t ([[Dv.i 1, Dv.s ⟨[].toArray⟩, Dv.s ⟨[97].toArray⟩, Dv.s ⟨[].toArray⟩, Dv.s ⟨[].toArray⟩, Dv.i 0, Dv.s ⟨[50].toArray⟩, Dv.b false, Dv.b false, Dv.i 0, Dv.s ⟨[].toArray⟩]] ++
    ([[Dv.i 1, Dv.s ⟨[].toArray⟩, Dv.s ⟨[98].toArray⟩, Dv.s ⟨[].toArray⟩, Dv.s ⟨[].toArray⟩, Dv.i 0, Dv.s ⟨[49].toArray⟩, Dv.b false, Dv.b false, Dv.i 0, Dv.s ⟨[].toArray⟩]] ++
     [[Dv.i 5, Dv.s ⟨[].toArray⟩, Dv.s ⟨[].toArray⟩, Dv.s ⟨[].toArray⟩, Dv.s ⟨[].toArray⟩, Dv.i 0, Dv.s ⟨[].toArray⟩, Dv.b false, Dv.b false, Dv.i 0, Dv.s ⟨[].toArray⟩]])) = Lc := id rfl
theorem Uh : Int.toNat 2 = 2 := id rfl
theorem Uy : (kH Lc).length = 3 := kX
theorem Pv : sY Lc := ⟨fun j hj => by
 have hj : j < 3 := hj; rcases j with _ | _ | _ | j
 ·exact ⟨⟨by decide, by decide, by decide⟩, kL, by decide⟩
 ·exact ⟨⟨by decide, by decide, by decide⟩, kL, by decide⟩
 ·exact ⟨⟨by decide, by decide, by decide⟩, kL, by decide⟩
 ·omega, by decide⟩
section
variable {o : Env}
theorem Ly (hu : OU o) (hg : OG o) {r : Nat} (hr : o.v 2220 = .i r) (hle : (r : Int) <= ((E.uf 331 (pk [.v 7850])).den o).I) : bo o NC := by
 simp only [pk, List.foldr, SS, implies_true, hg.all] at hle; have hle : r <= gN (YS (o.v 7850)) (o.v 7850).T.length := by omega
 simp only [NC, af, au, and_true]
 and_intros
 all_goals intro h
 all_goals simp only [SS, implies_true, hr, hu.JN, hu.OS, hg.all, al, cD, Classical.not_not] at h ⊢
 all_goals first
  | exact qn hle (by omega)
  | exact ir (r := r) (by omega) (fun q => by have := q.2.2; omega)
  | exact ir (r := r) (by omega) (fun q => h.1 q.2.1)
  | exact ir (r := r) (by omega) (fun q => h.1 q.1)
  | (have := uL hle (by omega) ⟨h.2.2.1, h.2.1, by omega⟩; omega)
theorem P0 (hg : OG o) : bo o UZ := by
 simp only [UZ, af, au, and_true]
 and_intros
 all_goals intro h
 all_goals simp only [SS, implies_true, hg.all, al, cD, uy, uE, Classical.not_not, Bk] at h ⊢
 ·omega
 ·exact fun q => h.1 q.1
 ·exact ⟨h.1, by omega⟩
theorem Nw (hu : OU o) (hg : OG o) {r : Nat} (hr : o.v 2221 = .i r) (hent : (H8.aU 0).ay o) (hle : (r : Int) <= ((E.uf 334 (pk [.v 7852])).den o).I) : bo o Kq := by
 simp only [H8, NS, pk, List.foldr, SS, implies_true, hg.all, al] at hent hle; have hle : r <= gN (YY (o.v 7852)) (o.v 7852).T.length := by omega
 obtain ⟨f1, f2⟩ := hent; simp only [Kq, af, au, and_true]
 and_intros
 all_goals intro h
 all_goals simp only [SS, implies_true, hr, hu.JN, hu.OS, hu.Wy, hu.ac5, hg.all, al, cD, Classical.not_not] at h ⊢
 all_goals first
  | exact qn hle (by omega)
  | (have f3 := f1 r (by omega); and_intros)
 all_goals try first
  | omega
  | exact f3.2.1.1 | exact f3.2.1.2 | exact f3.1.1 | exact f3.1.2.1 | exact f3.1.2.2.1 | exact f3.1.2.2.2.1 | exact f3.1.2.2.2.2.1.1 | exact f3.1.2.2.2.2.1.2 | exact f3.1.2.2.2.2.2
  | exact ir (r := r) (by omega) (fun q => by have := q.1; omega)
  | exact ir (r := r) (by omega) (fun q => by have := q.2.1; omega)
  | exact ir (r := r) (by omega) (fun q => by have := q.2.2.2.2; omega)
  | exact ir (r := r) (by omega) (fun q => h.1 q.2.2.1)
  | exact ir (r := r) (by omega) (fun q => h.1 q.2.2.2.1)
 all_goals have := uL hle (by omega) ⟨by omega, by omega, h.2.2.1, h.2.1, by omega⟩
 all_goals omega
theorem ON (hg : OG o) : bo o Vk := by
 simp only [Vk, af, au, and_true]
 and_intros
 all_goals intro h
 all_goals simp only [SS, implies_true, hg.all, al, cD, uy, uE, G6, Classical.not_not, AF] at h ⊢
 ·exact fun q => h q.1
 ·exact ⟨fun q => ⟨h, by omega⟩, fun q => by omega⟩
theorem KO (hj : OJ o) : bo o LZ := by
 simp only [LZ, af, au, and_true]
 and_intros
 all_goals intro h
 all_goals simp only [SS, implies_true, hj.hp] at h ⊢
 exact ⟨rfl, rfl, rfl, rfl, rfl⟩
theorem N8 (hj : OJ o) : bo o Wq := by
 simp only [Wq, af, au, and_true]
 and_intros
 all_goals intro h
 all_goals simp only [SS, implies_true, hj.hp, al] at h ⊢
 all_goals simp only [abp, Uh, Yp, Uy] at h ⊢
 ·exact ⟨rfl, rfl, rfl, rfl, rfl, Pv, rfl⟩
 ·exact absurd rfl h.1
 ·exact absurd rfl h
theorem PV (hu : OU o) (hj : OJ o) (hg : OG o) : bo o Um := by
 simp only [Um, af, au, and_true]
 and_intros
 all_goals intro h
 all_goals simp only [SS, implies_true, hu.aa3, hj.hp, hg.all, al, cD, Classical.not_not] at h ⊢
 obtain ⟨h1, h2, h3⟩ := h; have hf := NA h2 h1; have hl := hf.2; refine ⟨JX hf, ?_, rfl, rfl, by omega, hf, by omega, hf⟩
 rw [kX]; omega
end
end Go.Proofs.YtdlppkhmmclipaaGreat.sxObj
namespace Go.Proofs.YtdlppkhmmclipaaGreat.sxObj
open Go.Sx
set_option linter.unusedVariables false
set_option maxRecDepth 100000
abbrev op0 : E := eC 5 (.v 7700) (.v 7701)
abbrev op1 : E := eC 5 (.v 7702) (.v 7703)
abbrev aw : E := .il 0
abbrev op3 : E := .uf 100 (eP (eC 0 (.v 7700) (.v 7701)) (eP (eC 1 (.v 7700) (.v 7701)) aw))
abbrev op4 : E := .uf 100 (eP (eC 0 (.v 7702) (.v 7703)) (eP (eC 1 (.v 7702) (.v 7703)) aw))
abbrev op5 : E := .uf 280 (eP op0 (eP op3 (eP op1 (eP op4 aw))))
def MU : List (aa × List Ob) :=
 [(fT (.o2 .seq op0 op1) [], oO (.o2 .beq (.o2 .slt op3 op4) op5) []),
  (fF (.o2 .seq op0 op1) [], oO (.o2 .beq (.o2 .slt op0 op1) op5) [])]
abbrev xF : E := .v 7711
abbrev op7 : E := eP (.v 7710) (eP xF (eP (.v 7712) (eP (.v 7713) (eP (.v 2200) aw))))
abbrev rj : E := .uf 283 op7
abbrev op9 : E := .o2 .sub rj (.il 1)
abbrev eY : E := .o2 .quo op9 (.il 2)
abbrev yq : E := .il 9223372036854775807
abbrev qW : E := .il (-9223372036854775808)
abbrev Ng : E := .uf 282 op7
abbrev VE : E := eP (.v 7710) (eP xF (eP (.v 7712) (eP (.v 7713) aw)))
abbrev nU : E := .uf 281 op7
abbrev aeD : List Ob := oT Ng (.uf 286 VE) (oT nU (.uf 285 VE) [])
abbrev VB : List Ob := oO (.o2 .le qW op9) aeD
abbrev Zy : aa := fF (.o2 .aN eY rj) []
abbrev acD : aa := fF (.o2 .lt (.v 7714) rj) Zy
abbrev Xd : E := .o2 .fA (.o2 .fA nU (eP eY (eP (eC 0 nU rj) aw))) (eP rj (eP (eC 0 nU eY) aw))
abbrev VI : E := .o2 (.mf .s) xF (eC 0 Xd rj)
abbrev W1 : E := .o2 (.mf .s) xF (eC 0 Xd eY)
abbrev AD : E := .o2 (.mf .s) xF (eC 0 nU rj)
abbrev xX : E := eC 0 Ng (eC 1 xF AD)
abbrev AA : E := .o2 (.mf .s) xF (eC 0 nU eY)
abbrev wN : E := eC 0 Ng (eC 1 xF AA)
abbrev XX : E := .uf 280 (eP (eC 5 xX aw) (eP (.uf 100 (eP (eC 0 xX aw) (eP (eC 1 xX aw) aw))) (eP (eC 5 wN aw) (eP (.uf 100 (eP (eC 0 wN aw) (eP (eC 1 wN aw) aw))) aw))))
abbrev Zx : aa := fF (.o2 .lt (.v 7714) eY) acD
abbrev ab3 : aa := fT (.o2 .le aw AD) Zx
abbrev XG : aa := fT (.o2 .le aw AA) ab3
abbrev aeS : aa := fT (.o2 .le aw W1) (fT XX XG)
abbrev MX : E := eC 1 xF VI
abbrev Nf : E := eC 1 xF W1
abbrev XM : E := eP (.v 7710) (eP xF (eP (.v 7712) (eP (.v 7713) (eP (.o2 .add (.v 2200) (.il 1)) aw))))
abbrev abL : E := .o2 .fA Ng (eP Nf (eP (eC 0 Ng Nf) (eP eY aw)))
abbrev uX : List Ob := oO (.bl false) []
abbrev ad1 : List Ob := oO (.o2 .lt rj (.o1 .ab nU)) (oO (.o2 .le aw rj) (oO (.o2 .lt rj (.v 7714)) (oO (.o2 .le aw rj) (oO (.o2 .le qW eY) VB))))
abbrev Zm : List Ob := oO (.o2 .lt eY (.o1 .ab nU)) (oO (.o2 .le aw eY) (oO (.o2 .lt eY (.v 7714)) (oO (.o2 .le aw eY) ad1)))
def upL : List (aa × List Ob) :=
 [(fT (.o2 .aN eY rj) [], oO (.o2 .le eY yq) (oO (.o2 .le qW eY) (oO (.o2 .le op9 yq) VB))),
  (fT (.o2 .lt (.v 7714) rj) Zy, oO (.o2 .le eY yq) (oO (.o2 .le qW eY) (oO (.o2 .le op9 yq) aeD))),
  (fT (.o2 .lt (.v 7714) eY) acD, oO (.o2 .le eY yq) VB),
  (fT (.o2 .le aw VI) aeS, oO (.o2 .lt (.v 2200) (.uf 284 VE)) (oO (.o2 .le aw MX) (oO (.o2 .le aw MX) (oO (.o2 .le aw MX) (oO (.o2 .lt rj (.o1 .ab nU)) (oO (.o2 .le aw rj) (oO (.o2 .lt rj (.v 7714)) (oO (.o2 .le aw rj) (oO (.o2 .le aw Nf) (oO (.o2 .le aw Nf) (oO (.o2 .le aw Nf) (oO (.o2 .lt eY (.o1 .ab nU)) (oO (.o2 .le aw eY) (oO (.o2 .lt eY (.v 7714)) (oO (.o2 .le aw eY) (oO (.o2 .lt rj (.o1 .ab nU)) (oO (.o2 .lt rj (.o1 .ab nU)) (oO (.o2 .le aw rj) (oO (.o2 .lt rj (.v 7714)) (oO (.o2 .le aw rj) (oO (.o2 .lt eY (.o1 .ab nU)) (oO (.o2 .lt eY (.o1 .ab nU)) (oO (.o2 .le aw eY) (oO (.o2 .lt eY (.v 7714)) (oO (.o2 .le aw eY) (oO (.o2 .lt eY (.o1 .ab nU)) (oO (.o2 .le aw eY) (oO (.o2 .lt eY (.v 7714)) (oO (.o2 .le aw eY) (oO (.o2 .lt rj (.o1 .ab nU)) (oO (.o2 .le aw rj) (oO (.o2 .lt rj (.v 7714)) (oO (.o2 .le aw rj) (oO (.o1 .not (eC 6 wN aw)) (oO (.o1 .not (eC 6 xX aw)) (oO (.uf 110 (eP (eC 0 wN aw) (eP (eC 1 wN aw) (eP (eC 4 wN aw) aw)))) (oO (.uf 110 (eP (eC 0 xX aw) (eP (eC 1 xX aw) (eP (eC 4 xX aw) aw)))) (oO (.o2 .le aw (eC 1 xF AA)) (oO (.o2 .le aw (eC 1 xF AA)) (oO (.o2 .le aw (eC 1 xF AA)) (oO (.o2 .le aw (eC 1 xF AD)) (oO (.o2 .le aw (eC 1 xF AD)) (oO (.o2 .le aw (eC 1 xF AD)) (oO (.o2 .lt eY (.o1 .ab nU)) (oO (.o2 .le aw eY) (oO (.o2 .lt eY (.v 7714)) (oO (.o2 .le aw eY) (oO (.o2 .lt rj (.o1 .ab nU)) (oO (.o2 .le aw rj) (oO (.o2 .lt rj (.v 7714)) (oO (.o2 .le aw rj) (oO (.o2 .le qW eY) (oO (.o2 .le qW op9) (oO (.o2 .aN eY (.uf 283 XM)) (oT (.o2 .fA abL (eP MX (eP (eC 0 abL MX) (eP rj aw)))) (.uf 282 XM) (oT Xd (.uf 281 XM) [])))))))))))))))))))))))))))))))))))))))))))))))))))))))),
  (fF (.o2 .le aw VI) aeS, uX),
  (fF (.o2 .le aw W1) (fT XX XG), uX),
  (fF XX XG, oO (.o1 .not (eC 6 wN aw)) (oO (.o1 .not (eC 6 xX aw)) (oO (.uf 110 (eP (eC 0 wN aw) (eP (eC 1 wN aw) (eP (eC 4 wN aw) aw)))) (oO (.uf 110 (eP (eC 0 xX aw) (eP (eC 1 xX aw) (eP (eC 4 xX aw) aw)))) (oO (.o2 .le aw (eC 1 xF AA)) (oO (.o2 .le aw (eC 1 xF AA)) (oO (.o2 .le aw (eC 1 xF AA)) (oO (.o2 .le aw (eC 1 xF AD)) (oO (.o2 .le aw (eC 1 xF AD)) (oO (.o2 .le aw (eC 1 xF AD)) Zm)))))))))),
  (fF (.o2 .le aw AA) ab3, Zm),
  (fF (.o2 .le aw AD) Zx, ad1)]
abbrev bu : E := .v 7721
abbrev X2 : E := eP (.v 7720) (eP bu (eP (.v 7722) (eP (.v 7723) (eP (.v 7724) (eP (.v 2201) aw)))))
abbrev bc : E := .uf 293 X2
abbrev FI : E := .o2 .mul (.il 2) bc
abbrev cK : E := .o2 .add FI (.il 1)
abbrev EH : E := eP (.v 7720) (eP bu (eP (.v 7722) (eP (.v 7723) (eP (.v 7724) aw))))
abbrev Cu : E := .uf 292 X2
abbrev cp : E := .uf 291 X2
abbrev ZD : List Ob := oO (.o2 .aN bc (.uf 297 EH)) (oT Cu (.uf 296 EH) (oT cp (.uf 295 EH) []))
abbrev UB : List Ob := oO (.o2 .le qW FI) ZD
abbrev L8 : List Ob := oO (.o2 .le FI yq) UB
abbrev aeL : aa := fF (.o2 .le (.v 7724) cK) []
abbrev cd : E := .v 7725
abbrev cT : E := .o2 .add FI (.il 2)
abbrev abY : aa := fF (.o2 .lt cK aw) aeL
abbrev adO : aa := fT (.o2 .lt cT (.v 7724)) abY
abbrev aay : aa := fT (.o2 .lt cd cT) adO
abbrev acp : aa := fF (.o2 .lt cd cK) aay
abbrev Ur : List Ob := oO (.o2 .le FI yq) ZD
abbrev aaQ : E := eP (eC 0 cp bc) aw
abbrev WC : E := .o2 .fA (.o2 .fA cp (eP bc (eP (eC 0 cp cK) aw))) (eP cK aaQ)
abbrev Bm : E := .o2 (.mf .s) bu (eC 0 WC cK)
abbrev Am : E := .o2 (.mf .s) bu (eC 0 WC bc)
abbrev eV : E := .o2 (.mf .s) bu (eC 0 cp cK)
abbrev ef : E := eC 0 Cu (eC 1 bu eV)
abbrev ZT : E := .uf 100 (eP (eC 0 ef aw) (eP (eC 1 ef aw) aw))
abbrev fB : E := .o2 (.mf .s) bu (eC 0 cp bc)
abbrev fO : E := eC 0 Cu (eC 1 bu fB)
abbrev ab4 : E := eP (eC 5 fO aw) (eP (.uf 100 (eP (eC 0 fO aw) (eP (eC 1 fO aw) aw))) aw)
abbrev uZ : E := .uf 280 (eP (eC 5 ef aw) (eP ZT ab4))
abbrev Ze : aa := fF (.o2 .lt cd bc) acp
abbrev aeA : aa := fT (.o2 .le aw eV) Ze
abbrev XO : aa := fT (.o2 .le aw fB) aeA
abbrev ad3 : aa := fT (.o2 .le aw Am) (fT uZ XO)
abbrev xf : E := eC 1 bu Bm
abbrev vO : E := eC 1 bu Am
abbrev JH : E := eP (.v 7720) (eP bu (eP (.v 7722) (eP (.v 7723) (eP (.v 7724) (eP (.o2 .add (.v 2201) (.il 1)) aw)))))
abbrev Y6 : E := .o2 .fA Cu (eP vO (eP (eC 0 Cu vO) (eP bc aw)))
abbrev aeZ : List Ob := oO (.o2 .le qW FI) (oO (.o2 .aN cK (.uf 293 JH)) (oT (.o2 .fA Y6 (eP xf (eP (eC 0 Y6 xf) (eP cK aw)))) (.uf 292 JH) (oT WC (.uf 291 JH) [])))
abbrev Z4 : List Ob := oO (.o2 .lt (.v 2201) (.uf 294 EH)) (oO (.o2 .le aw xf) (oO (.o2 .le aw xf) (oO (.o2 .le aw xf) (oO (.o2 .lt cK (.o1 .ab cp)) (oO (.o2 .lt cK cd) (oO (.o2 .le aw vO) (oO (.o2 .le aw vO) (oO (.o2 .le aw vO) (oO (.o2 .lt bc (.o1 .ab cp)) (oO (.o2 .le aw bc) (oO (.o2 .lt bc cd) (oO (.o2 .le aw bc) (oO (.o2 .lt cK (.o1 .ab cp)) (oO (.o2 .lt cK (.o1 .ab cp)) (oO (.o2 .lt cK cd) (oO (.o2 .lt bc (.o1 .ab cp)) (oO (.o2 .lt bc (.o1 .ab cp)) (oO (.o2 .le aw bc) (oO (.o2 .lt bc cd) (oO (.o2 .le aw bc) (oO (.o2 .lt bc (.o1 .ab cp)) (oO (.o2 .le aw bc) (oO (.o2 .lt bc cd) (oO (.o2 .le aw bc) (oO (.o2 .lt cK (.o1 .ab cp)) (oO (.o2 .lt cK cd) (oO (.o1 .not (eC 6 fO aw)) (oO (.o1 .not (eC 6 ef aw)) (oO (.uf 110 (eP (eC 0 fO aw) (eP (eC 1 fO aw) (eP (eC 4 fO aw) aw)))) (oO (.uf 110 (eP (eC 0 ef aw) (eP (eC 1 ef aw) (eP (eC 4 ef aw) aw)))) (oO (.o2 .le aw (eC 1 bu fB)) (oO (.o2 .le aw (eC 1 bu fB)) (oO (.o2 .le aw (eC 1 bu fB)) (oO (.o2 .le aw (eC 1 bu eV)) (oO (.o2 .le aw (eC 1 bu eV)) (oO (.o2 .le aw (eC 1 bu eV)) (oO (.o2 .lt bc (.o1 .ab cp)) (oO (.o2 .le aw bc) (oO (.o2 .lt bc cd) (oO (.o2 .le aw bc) (oO (.o2 .lt cK (.o1 .ab cp)) (oO (.o2 .lt cK cd) aeZ))))))))))))))))))))))))))))))))))))))))))
abbrev Uf : List Ob := oO (.o2 .lt cK (.o1 .ab cp)) (oO (.o2 .lt cK cd) UB)
abbrev Wp : List Ob := oO (.o2 .lt bc (.o1 .ab cp)) (oO (.o2 .le aw bc) (oO (.o2 .lt bc cd) (oO (.o2 .le aw bc) Uf)))
abbrev adx : List Ob := oO (.o1 .not (eC 6 fO aw)) (oO (.o1 .not (eC 6 ef aw)) (oO (.uf 110 (eP (eC 0 fO aw) (eP (eC 1 fO aw) (eP (eC 4 fO aw) aw)))) (oO (.uf 110 (eP (eC 0 ef aw) (eP (eC 1 ef aw) (eP (eC 4 ef aw) aw)))) (oO (.o2 .le aw (eC 1 bu fB)) (oO (.o2 .le aw (eC 1 bu fB)) (oO (.o2 .le aw (eC 1 bu fB)) (oO (.o2 .le aw (eC 1 bu eV)) (oO (.o2 .le aw (eC 1 bu eV)) (oO (.o2 .le aw (eC 1 bu eV)) Wp)))))))))
abbrev Y5 : aa := fF (.o2 .lt cd cT) adO
abbrev lY : E := .o2 (.mf .s) bu (eC 0 cp cT)
abbrev iH : E := eC 0 Cu (eC 1 bu lY)
abbrev acN : E := .uf 100 (eP (eC 0 iH aw) (eP (eC 1 iH aw) aw))
abbrev Pd : E := .uf 280 (eP (eC 5 iH aw) (eP acN (eP (eC 5 ef aw) (eP ZT aw))))
abbrev ad0 : aa := fF (.o2 .lt cd cK) Y5
abbrev abM : aa := fT (.o2 .le aw lY) ad0
abbrev PW : aa := fT (.o2 .le aw eV) abM
abbrev adq : List Ob := oO (.o2 .lt cT (.o1 .ab cp)) (oO (.o2 .le aw cT) (oO (.o2 .lt cT cd) (oO (.o2 .le aw cT) (oO (.o2 .le qW cT) Ur))))
abbrev ac7 : List Ob := oO (.o2 .lt cK (.o1 .ab cp)) (oO (.o2 .lt cK cd) adq)
abbrev aaU : List Ob := oO (.o1 .not (eC 6 ef aw)) (oO (.o1 .not (eC 6 iH aw)) (oO (.uf 110 (eP (eC 0 ef aw) (eP (eC 1 ef aw) (eP (eC 4 ef aw) aw)))) (oO (.uf 110 (eP (eC 0 iH aw) (eP (eC 1 iH aw) (eP (eC 4 iH aw) aw)))) (oO (.o2 .le aw (eC 1 bu eV)) (oO (.o2 .le aw (eC 1 bu eV)) (oO (.o2 .le aw (eC 1 bu eV)) (oO (.o2 .le aw (eC 1 bu lY)) (oO (.o2 .le aw (eC 1 bu lY)) (oO (.o2 .le aw (eC 1 bu lY)) ac7)))))))))
abbrev XA : E := .o2 .fA (.o2 .fA cp (eP bc (eP (eC 0 cp cT) aw))) (eP cT aaQ)
abbrev VT : E := .o2 (.mf .s) bu (eC 0 XA cT)
abbrev XW : E := .o2 (.mf .s) bu (eC 0 XA bc)
abbrev TW : E := .uf 280 (eP (eC 5 iH aw) (eP acN ab4))
abbrev Zd : aa := fF (.o2 .lt cd bc) (fT Pd PW)
abbrev Uj : aa := fT (.o2 .le aw fB) Zd
abbrev aek : aa := fT (.o2 .le aw XW) (fT TW Uj)
abbrev Dc : E := eC 1 bu VT
abbrev Cl : E := eC 1 bu XW
abbrev Tr : E := .o2 .fA Cu (eP Cl (eP (eC 0 Cu Cl) (eP bc aw)))
abbrev HH : List Ob := oO (.o2 .lt cK (.o1 .ab cp)) (oO (.o2 .lt cK cd) (oO (.o2 .lt cT (.o1 .ab cp)) (oO (.o2 .le aw cT) (oO (.o2 .lt cT cd) (oO (.o2 .le aw cT) (oO (.o2 .le qW cT) UB))))))
abbrev R9 : List Ob := oO (.o1 .not (eC 6 ef aw)) (oO (.o1 .not (eC 6 iH aw)) (oO (.uf 110 (eP (eC 0 ef aw) (eP (eC 1 ef aw) (eP (eC 4 ef aw) aw)))) (oO (.uf 110 (eP (eC 0 iH aw) (eP (eC 1 iH aw) (eP (eC 4 iH aw) aw)))) (oO (.o2 .le aw (eC 1 bu eV)) (oO (.o2 .le aw (eC 1 bu eV)) (oO (.o2 .le aw (eC 1 bu eV)) (oO (.o2 .le aw (eC 1 bu lY)) (oO (.o2 .le aw (eC 1 bu lY)) (oO (.o2 .le aw (eC 1 bu lY)) HH)))))))))
abbrev R0 : List Ob := oO (.o2 .lt bc (.o1 .ab cp)) (oO (.o2 .le aw bc) (oO (.o2 .lt bc cd) (oO (.o2 .le aw bc) (oO (.o2 .lt cT (.o1 .ab cp)) (oO (.o2 .le aw cT) (oO (.o2 .lt cT cd) (oO (.o2 .le aw cT) R9)))))))
abbrev Sw : aa := fF (.o2 .lt cd bc) (fF Pd PW)
abbrev MM : aa := fT (.o2 .le aw fB) Sw
abbrev S2 : aa := fT (.o2 .le aw Am) (fT uZ MM)
abbrev R8 : List Ob := oO (.o2 .lt cK (.o1 .ab cp)) (oO (.o2 .lt cK cd) (oO (.o2 .lt cT (.o1 .ab cp)) (oO (.o2 .le aw cT) (oO (.o2 .lt cT cd) (oO (.o2 .le aw cT) (oO (.o2 .le qW cT) aeZ))))))
abbrev Th : List Ob := oO (.o2 .lt bc (.o1 .ab cp)) (oO (.o2 .le aw bc) (oO (.o2 .lt bc cd) (oO (.o2 .le aw bc) (oO (.o2 .lt cK (.o1 .ab cp)) (oO (.o2 .lt cK cd) R9)))))
abbrev Sy : aa := fF (.o2 .le aw eV) abM
abbrev Tt : aa := fF (.o2 .le aw lY) ad0
abbrev S8 : aa := fF (.o2 .lt cd bc) Tt
abbrev TM : aa := fT (.o2 .le aw eV) S8
abbrev Kf : aa := fT (.o2 .le aw fB) TM
abbrev RY : aa := fT (.o2 .le aw Am) (fT uZ Kf)
abbrev Sn : List Ob := oO (.o2 .lt bc (.o1 .ab cp)) (oO (.o2 .le aw bc) (oO (.o2 .lt bc cd) (oO (.o2 .le aw bc) HH)))
abbrev S9 : aa := fF (.o2 .lt cT (.v 7724)) abY
abbrev S0 : aa := fF (.o2 .lt cd cK) S9
abbrev SX : aa := fF (.o2 .lt cd bc) S0
abbrev R3 : aa := fT (.o2 .le aw eV) SX
abbrev Kx : aa := fT (.o2 .le aw fB) R3
abbrev R7 : aa := fT (.o2 .le aw Am) (fT uZ Kx)
def dnL : List (aa × List Ob) :=
 [(fT (.o2 .le (.v 7724) cK) [], oO (.o2 .le cK yq) L8),
  (fT (.o2 .lt cK aw) aeL, oO (.o2 .le qW cK) L8),
  (fT (.o2 .lt cd cK) aay, L8),
  (fT (.o2 .lt cd bc) acp, Ur),
  (fT (.o2 .le aw Bm) ad3, Z4),
  (fF (.o2 .le aw Bm) ad3, uX),
  (fF (.o2 .le aw Am) (fT uZ XO), uX),
  (fF uZ XO, adx),
  (fF (.o2 .le aw fB) aeA, Wp),
  (fF (.o2 .le aw eV) Ze, Uf),
  (fT (.o2 .lt cd cK) Y5, oO (.o2 .le qW cT) L8),
  (fT (.o2 .lt cd bc) (fT Pd PW), aaU),
  (fT (.o2 .le aw VT) aek, oO (.o2 .lt (.v 2201) (.uf 294 EH)) (oO (.o2 .le aw Dc) (oO (.o2 .le aw Dc) (oO (.o2 .le aw Dc) (oO (.o2 .lt cT (.o1 .ab cp)) (oO (.o2 .le aw cT) (oO (.o2 .lt cT cd) (oO (.o2 .le aw cT) (oO (.o2 .le aw Cl) (oO (.o2 .le aw Cl) (oO (.o2 .le aw Cl) (oO (.o2 .lt bc (.o1 .ab cp)) (oO (.o2 .le aw bc) (oO (.o2 .lt bc cd) (oO (.o2 .le aw bc) (oO (.o2 .lt cT (.o1 .ab cp)) (oO (.o2 .lt cT (.o1 .ab cp)) (oO (.o2 .le aw cT) (oO (.o2 .lt cT cd) (oO (.o2 .le aw cT) (oO (.o2 .lt bc (.o1 .ab cp)) (oO (.o2 .lt bc (.o1 .ab cp)) (oO (.o2 .le aw bc) (oO (.o2 .lt bc cd) (oO (.o2 .le aw bc) (oO (.o2 .lt bc (.o1 .ab cp)) (oO (.o2 .le aw bc) (oO (.o2 .lt bc cd) (oO (.o2 .le aw bc) (oO (.o2 .lt cT (.o1 .ab cp)) (oO (.o2 .le aw cT) (oO (.o2 .lt cT cd) (oO (.o2 .le aw cT) (oO (.o1 .not (eC 6 fO aw)) (oO (.o1 .not (eC 6 iH aw)) (oO (.uf 110 (eP (eC 0 fO aw) (eP (eC 1 fO aw) (eP (eC 4 fO aw) aw)))) (oO (.uf 110 (eP (eC 0 iH aw) (eP (eC 1 iH aw) (eP (eC 4 iH aw) aw)))) (oO (.o2 .le aw (eC 1 bu fB)) (oO (.o2 .le aw (eC 1 bu fB)) (oO (.o2 .le aw (eC 1 bu fB)) (oO (.o2 .le aw (eC 1 bu lY)) (oO (.o2 .le aw (eC 1 bu lY)) (oO (.o2 .le aw (eC 1 bu lY)) (oO (.o2 .lt bc (.o1 .ab cp)) (oO (.o2 .le aw bc) (oO (.o2 .lt bc cd) (oO (.o2 .le aw bc) (oO (.o2 .lt cT (.o1 .ab cp)) (oO (.o2 .le aw cT) (oO (.o2 .lt cT cd) (oO (.o2 .le aw cT) (oO (.o1 .not (eC 6 ef aw)) (oO (.o1 .not (eC 6 iH aw)) (oO (.uf 110 (eP (eC 0 ef aw) (eP (eC 1 ef aw) (eP (eC 4 ef aw) aw)))) (oO (.uf 110 (eP (eC 0 iH aw) (eP (eC 1 iH aw) (eP (eC 4 iH aw) aw)))) (oO (.o2 .le aw (eC 1 bu eV)) (oO (.o2 .le aw (eC 1 bu eV)) (oO (.o2 .le aw (eC 1 bu eV)) (oO (.o2 .le aw (eC 1 bu lY)) (oO (.o2 .le aw (eC 1 bu lY)) (oO (.o2 .le aw (eC 1 bu lY)) (oO (.o2 .lt cK (.o1 .ab cp)) (oO (.o2 .lt cK cd) (oO (.o2 .lt cT (.o1 .ab cp)) (oO (.o2 .le aw cT) (oO (.o2 .lt cT cd) (oO (.o2 .le aw cT) (oO (.o2 .le qW cT) (oO (.o2 .le qW FI) (oO (.o2 .aN cT (.uf 293 JH)) (oT (.o2 .fA Tr (eP Dc (eP (eC 0 Tr Dc) (eP cT aw)))) (.uf 292 JH) (oT XA (.uf 291 JH) [])))))))))))))))))))))))))))))))))))))))))))))))))))))))))))))))))))))))),
  (fF (.o2 .le aw VT) aek, uX),
  (fF (.o2 .le aw XW) (fT TW Uj), uX),
  (fF TW Uj, oO (.o1 .not (eC 6 fO aw)) (oO (.o1 .not (eC 6 iH aw)) (oO (.uf 110 (eP (eC 0 fO aw) (eP (eC 1 fO aw) (eP (eC 4 fO aw) aw)))) (oO (.uf 110 (eP (eC 0 iH aw) (eP (eC 1 iH aw) (eP (eC 4 iH aw) aw)))) (oO (.o2 .le aw (eC 1 bu fB)) (oO (.o2 .le aw (eC 1 bu fB)) (oO (.o2 .le aw (eC 1 bu fB)) (oO (.o2 .le aw (eC 1 bu lY)) (oO (.o2 .le aw (eC 1 bu lY)) (oO (.o2 .le aw (eC 1 bu lY)) R0)))))))))),
  (fF (.o2 .le aw fB) Zd, R0),
  (fT (.o2 .lt cd bc) (fF Pd PW), aaU),
  (fT (.o2 .le aw Bm) S2, oO (.o2 .lt (.v 2201) (.uf 294 EH)) (oO (.o2 .le aw xf) (oO (.o2 .le aw xf) (oO (.o2 .le aw xf) (oO (.o2 .lt cK (.o1 .ab cp)) (oO (.o2 .lt cK cd) (oO (.o2 .le aw vO) (oO (.o2 .le aw vO) (oO (.o2 .le aw vO) (oO (.o2 .lt bc (.o1 .ab cp)) (oO (.o2 .le aw bc) (oO (.o2 .lt bc cd) (oO (.o2 .le aw bc) (oO (.o2 .lt cK (.o1 .ab cp)) (oO (.o2 .lt cK (.o1 .ab cp)) (oO (.o2 .lt cK cd) (oO (.o2 .lt bc (.o1 .ab cp)) (oO (.o2 .lt bc (.o1 .ab cp)) (oO (.o2 .le aw bc) (oO (.o2 .lt bc cd) (oO (.o2 .le aw bc) (oO (.o2 .lt bc (.o1 .ab cp)) (oO (.o2 .le aw bc) (oO (.o2 .lt bc cd) (oO (.o2 .le aw bc) (oO (.o2 .lt cK (.o1 .ab cp)) (oO (.o2 .lt cK cd) (oO (.o1 .not (eC 6 fO aw)) (oO (.o1 .not (eC 6 ef aw)) (oO (.uf 110 (eP (eC 0 fO aw) (eP (eC 1 fO aw) (eP (eC 4 fO aw) aw)))) (oO (.uf 110 (eP (eC 0 ef aw) (eP (eC 1 ef aw) (eP (eC 4 ef aw) aw)))) (oO (.o2 .le aw (eC 1 bu fB)) (oO (.o2 .le aw (eC 1 bu fB)) (oO (.o2 .le aw (eC 1 bu fB)) (oO (.o2 .le aw (eC 1 bu eV)) (oO (.o2 .le aw (eC 1 bu eV)) (oO (.o2 .le aw (eC 1 bu eV)) (oO (.o2 .lt bc (.o1 .ab cp)) (oO (.o2 .le aw bc) (oO (.o2 .lt bc cd) (oO (.o2 .le aw bc) (oO (.o2 .lt cK (.o1 .ab cp)) (oO (.o2 .lt cK cd) (oO (.o1 .not (eC 6 ef aw)) (oO (.o1 .not (eC 6 iH aw)) (oO (.uf 110 (eP (eC 0 ef aw) (eP (eC 1 ef aw) (eP (eC 4 ef aw) aw)))) (oO (.uf 110 (eP (eC 0 iH aw) (eP (eC 1 iH aw) (eP (eC 4 iH aw) aw)))) (oO (.o2 .le aw (eC 1 bu eV)) (oO (.o2 .le aw (eC 1 bu eV)) (oO (.o2 .le aw (eC 1 bu eV)) (oO (.o2 .le aw (eC 1 bu lY)) (oO (.o2 .le aw (eC 1 bu lY)) (oO (.o2 .le aw (eC 1 bu lY)) R8))))))))))))))))))))))))))))))))))))))))))))))))))))),
  (fF (.o2 .le aw Bm) S2, uX),
  (fF (.o2 .le aw Am) (fT uZ MM), uX),
  (fF uZ MM, oO (.o1 .not (eC 6 fO aw)) (oO (.o1 .not (eC 6 ef aw)) (oO (.uf 110 (eP (eC 0 fO aw) (eP (eC 1 fO aw) (eP (eC 4 fO aw) aw)))) (oO (.uf 110 (eP (eC 0 ef aw) (eP (eC 1 ef aw) (eP (eC 4 ef aw) aw)))) (oO (.o2 .le aw (eC 1 bu fB)) (oO (.o2 .le aw (eC 1 bu fB)) (oO (.o2 .le aw (eC 1 bu fB)) (oO (.o2 .le aw (eC 1 bu eV)) (oO (.o2 .le aw (eC 1 bu eV)) (oO (.o2 .le aw (eC 1 bu eV)) Th)))))))))),
  (fF (.o2 .le aw fB) Sw, Th),
  (fT (.o2 .lt cd bc) Sy, ac7),
  (fF (.o2 .lt cd bc) Sy, oO (.o2 .lt cK (.o1 .ab cp)) (oO (.o2 .lt cK cd) HH)),
  (fT (.o2 .lt cd bc) Tt, adq),
  (fT (.o2 .le aw Bm) RY, oO (.o2 .lt (.v 2201) (.uf 294 EH)) (oO (.o2 .le aw xf) (oO (.o2 .le aw xf) (oO (.o2 .le aw xf) (oO (.o2 .lt cK (.o1 .ab cp)) (oO (.o2 .lt cK cd) (oO (.o2 .le aw vO) (oO (.o2 .le aw vO) (oO (.o2 .le aw vO) (oO (.o2 .lt bc (.o1 .ab cp)) (oO (.o2 .le aw bc) (oO (.o2 .lt bc cd) (oO (.o2 .le aw bc) (oO (.o2 .lt cK (.o1 .ab cp)) (oO (.o2 .lt cK (.o1 .ab cp)) (oO (.o2 .lt cK cd) (oO (.o2 .lt bc (.o1 .ab cp)) (oO (.o2 .lt bc (.o1 .ab cp)) (oO (.o2 .le aw bc) (oO (.o2 .lt bc cd) (oO (.o2 .le aw bc) (oO (.o2 .lt bc (.o1 .ab cp)) (oO (.o2 .le aw bc) (oO (.o2 .lt bc cd) (oO (.o2 .le aw bc) (oO (.o2 .lt cK (.o1 .ab cp)) (oO (.o2 .lt cK cd) (oO (.o1 .not (eC 6 fO aw)) (oO (.o1 .not (eC 6 ef aw)) (oO (.uf 110 (eP (eC 0 fO aw) (eP (eC 1 fO aw) (eP (eC 4 fO aw) aw)))) (oO (.uf 110 (eP (eC 0 ef aw) (eP (eC 1 ef aw) (eP (eC 4 ef aw) aw)))) (oO (.o2 .le aw (eC 1 bu fB)) (oO (.o2 .le aw (eC 1 bu fB)) (oO (.o2 .le aw (eC 1 bu fB)) (oO (.o2 .le aw (eC 1 bu eV)) (oO (.o2 .le aw (eC 1 bu eV)) (oO (.o2 .le aw (eC 1 bu eV)) (oO (.o2 .lt bc (.o1 .ab cp)) (oO (.o2 .le aw bc) (oO (.o2 .lt bc cd) (oO (.o2 .le aw bc) R8))))))))))))))))))))))))))))))))))))))))),
  (fF (.o2 .le aw Bm) RY, uX),
  (fF (.o2 .le aw Am) (fT uZ Kf), uX),
  (fF uZ Kf, oO (.o1 .not (eC 6 fO aw)) (oO (.o1 .not (eC 6 ef aw)) (oO (.uf 110 (eP (eC 0 fO aw) (eP (eC 1 fO aw) (eP (eC 4 fO aw) aw)))) (oO (.uf 110 (eP (eC 0 ef aw) (eP (eC 1 ef aw) (eP (eC 4 ef aw) aw)))) (oO (.o2 .le aw (eC 1 bu fB)) (oO (.o2 .le aw (eC 1 bu fB)) (oO (.o2 .le aw (eC 1 bu fB)) (oO (.o2 .le aw (eC 1 bu eV)) (oO (.o2 .le aw (eC 1 bu eV)) (oO (.o2 .le aw (eC 1 bu eV)) Sn)))))))))),
  (fF (.o2 .le aw fB) TM, Sn),
  (fF (.o2 .le aw eV) S8, HH),
  (fT (.o2 .lt cd cK) S9, oO (.o2 .le cT yq) L8),
  (fT (.o2 .lt cd bc) S0, oO (.o2 .le cT yq) Ur),
  (fT (.o2 .le aw Bm) R7, Z4),
  (fF (.o2 .le aw Bm) R7, uX),
  (fF (.o2 .le aw Am) (fT uZ Kx), uX),
  (fF uZ Kx, adx),
  (fF (.o2 .le aw fB) R3, Wp),
  (fF (.o2 .le aw eV) SX, Uf)]
end Go.Proofs.YtdlppkhmmclipaaGreat.sxObj
namespace Go.Proofs.YtdlppkhmmclipaaGreat.sxObj
open Go.Sx Go.RowKit Go.Proofs.YtdlppkhmmclipaaGreat
set_option linter.unusedVariables false
set_option linter.unusedSimpArgs false
set_option maxRecDepth 100000
theorem ae1 {j : Nat} : ((j : Int) - 1).tdiv 2 = ((par j : Nat) : Int) := by
 unfold par; rcases Nat.eq_zero_or_pos j with h | h
 ·subst h; rfl
 ·rw [Int.tdiv_eq_ediv_of_nonneg (by omega)]
  omega
section
variable {B I A : Dv} {n j : Nat}
theorem acM {r : Nat} (h : r <= Cx B I A j) : (eh B I A j r).j + r <= j := up_down r fun s hs => by
 have h2 : s < stop (fun t => !oX I (eh B I A j t)) (j + 1) := Nat.lt_of_lt_of_le hs h; have h3 := bJ h2; simp only [Bool.not_eq_false', oX, Bool.and_eq_true, decide_eq_true_eq] at h3; exact h3.1
theorem aeq {r : Nat} (h : r <= Cx B I A j) (hg : oX I (eh B I A j r) = true) : r < Cx B I A j :=
 r6 h (by have := acM h; omega) (by rw [hg]; rfl)
theorem Vi {r : Nat} (h : r <= Cx B I A j) (hg : oX I (eh B I A j r) = false) : Cx B I A j = r :=
 GG h (.inl (by rw [hg]; rfl))
end
section
variable {o : Env}
theorem VG {env : Env} {a b : E} : (E.o2 .quo a b).den env = .i ((a.den env).I.tdiv (b.den env).I) := id rfl
theorem LJ (hu : OU o) (hh : OH o) : bo o MU := by
 simp only [MU, af, au, and_true]
 and_intros
 all_goals intro h
 all_goals simp only [SS, implies_true, hh.all, hu.mB] at h ⊢
 ·unfold VY; rw [if_pos h]
 ·unfold VY; rw [if_neg h]
set_option maxHeartbeats 1000000 in
theorem VD (hu : OU o) (hh : OH o) {r : Nat} (hr : o.v 2200 = .i r) (hent : (YP.aU 0).ay o) (hle : (r : Int) <= ((E.uf 284 (pk Ql)).den o).I) : bo o upL := by
 simp only [YP, L9, Ql, cP, sM, aB, pk, List.foldr, SS, implies_true, hh.all, al] at hent hle; obtain ⟨hin, t1, t2, t3, t4, t5⟩ := hent; have hj : (o.v 7713).I.toNat < (o.v 7714).I.toNat := by omega
 have hle : r <= Cx (o.v 7710) (o.v 7711) (o.v 7712) (o.v 7713).I.toNat := by omega
 have hi := acA hin hj r; have hjl := TS (B := o.v 7710) (I := o.v 7711) (A := o.v 7712) (j := (o.v 7713).I.toNat) r; have hgo := aeq hle; have hof := Vi hle; have hS : eh (o.v 7710) (o.v 7711) (o.v 7712) (o.v 7713).I.toNat (r + 1) = swS (o.v 7711) (eh (o.v 7710) (o.v 7711) (o.v 7712) (o.v 7713).I.toNat r) (par (eh (o.v 7710) (o.v 7711) (o.v 7712) (o.v 7713).I.toNat r).j) (eh (o.v 7710) (o.v 7711) (o.v 7712) (o.v 7713).I.toNat r).j (par (eh (o.v 7710) (o.v 7711) (o.v 7712) (o.v 7713).I.toNat r).j) := rfl; simp only [upL, af, au, and_true]
 and_intros
 all_goals intro h
 all_goals simp only [SS, implies_true, hr, hh.all, hu.mB, hu.jt, al, VG, X0, ae1] at h ⊢
 all_goals try simp only [ZF, acK, aaN, ad7, abJ, Sj, aak, aaE, RP] at h ⊢
 all_goals generalize hs : eh (o.v 7710) (o.v 7711) (o.v 7712) (o.v 7713).I.toNat r = s at *
 all_goals have hJ : s.j < (o.v 7714).I.toNat := by omega
 all_goals have hP : par s.j < (o.v 7714).I.toNat := Nat.lt_of_le_of_lt kQ hJ
 all_goals have hn := hi.n
 all_goals have hi2 := iu hi hP hJ
 all_goals obtain ⟨oP1, oP2, oP3⟩ := hi.o _ hP
 all_goals obtain ⟨oJ1, oJ2, oJ3⟩ := hi.o _ hJ
 ·have h0 : s.j = 0 := by
    rcases Nat.eq_zero_or_pos s.j with q | q
    ·exact q
    ·have := Kw q; omega
  rw [hof (by unfold oX; rw [h0]; rfl), hs]
  exact ⟨by omega, by omega, by omega, by omega, rfl, rfl⟩
 ·exact absurd h.1 (by omega)
 ·exact absurd h.1 (by omega)
 ·have h0 : 0 < s.j := by
    rcases Nat.eq_zero_or_pos s.j with q | q
    ·have h9 : par s.j = s.j := by rw [q]; rfl
     exact absurd (show ((par s.j : Nat) : Int) = (s.j : Nat) by omega) h.2.2.2.2.2.2.2
    ·exact q
  have hg := hgo (by unfold oX; rw [decide_eq_true h0, Bool.true_and]; exact h.2.2.1)
  repeat' refine And.intro ?_ ?_
  all_goals first
   | omega
   | with_reducible rfl
   | with_reducible exact hi.i _ hP
   | with_reducible exact hi.i _ hJ
   | with_reducible exact hi2.i _ hP
   | with_reducible exact hi2.i _ hJ
   | with_reducible exact hi.b _ hP
   | with_reducible exact hi.b _ hJ
   | assumption
   | (rw [hS]; rfl)
 ·exact absurd (hi2.k _ hJ) h.1
 ·exact absurd (hi2.k _ hP) h.1
 ·rw [hof (by unfold oX; rw [show Ys (o.v 7711) s s.j (par s.j) = false from h.1, Bool.and_false]), hs]
  repeat' refine And.intro ?_ ?_
  all_goals first
   | omega
   | with_reducible rfl
   | with_reducible exact hi.i _ hP
   | with_reducible exact hi.i _ hJ
   | with_reducible exact hi2.i _ hP
   | with_reducible exact hi2.i _ hJ
   | with_reducible exact hi.b _ hP
   | with_reducible exact hi.b _ hJ
   | assumption
   | (rw [hS]; rfl)
 ·exact absurd (hi.k _ hP) h.1
 ·exact absurd (hi.k _ hJ) h.1
theorem tn1 {j : Nat} : (2 * (j : Int) + 1).toNat = 2 * j + 1 := by omega
theorem tn2 {j : Nat} : (2 * (j : Int) + 2).toNat = 2 * j + 2 := by omega
set_option maxHeartbeats 4000000 in
theorem UG (hu : OU o) (hh : OH o) {r : Nat} (hr : o.v 2201 = .i r) (hent : (YU.aU 0).ay o) (hle : (r : Int) <= ((E.uf 294 (pk NQ)).den o).I) : bo o dnL := by
 simp only [YU, Kt, NQ, cP, sM, aB, pk, List.foldr, SS, implies_true, hh.all, al] at hent hle; obtain ⟨hin, t1, t2, t3, t4, t5, t6, t7⟩ := hent; have hle : r <= ym (o.v 7720) (o.v 7721) (o.v 7722) (o.v 7724).I.toNat (o.v 7723).I.toNat := by omega
 have hi := ach hin (by omega) r hle
 have hjl := agU r hle; have hgo := abn hle; have hof := Xc hle; have hS : dE (o.v 7720) (o.v 7721) (o.v 7722) (o.v 7724).I.toNat (o.v 7723).I.toNat (r + 1) = swS (o.v 7721) (dE (o.v 7720) (o.v 7721) (o.v 7722) (o.v 7724).I.toNat (o.v 7723).I.toNat r) (dE (o.v 7720) (o.v 7721) (o.v 7722) (o.v 7724).I.toNat (o.v 7723).I.toNat r).j (gV (o.v 7721) (dE (o.v 7720) (o.v 7721) (o.v 7722) (o.v 7724).I.toNat (o.v 7723).I.toNat r) (o.v 7724).I.toNat) (gV (o.v 7721) (dE (o.v 7720) (o.v 7721) (o.v 7722) (o.v 7724).I.toNat (o.v 7723).I.toNat r) (o.v 7724).I.toNat) := rfl; simp only [dnL, af, au, and_true]
 and_intros
 all_goals intro h
 all_goals simp only [SS, implies_true, hr, hh.all, hu.mB, hu.jt, al, tn1, tn2] at h ⊢
 all_goals try simp only [ZF, acK, aaN, ad7, abJ, Sj, aak, aaE, RP] at h ⊢
 all_goals generalize hs : dE (o.v 7720) (o.v 7721) (o.v 7722) (o.v 7724).I.toNat (o.v 7723).I.toNat r = s at *
 all_goals have hn := hi.n
 all_goals (repeat (have b := h.1; replace h := h.2))
 all_goals first
  | (exfalso; omega)
  | (rw [hof (ZI (by omega)), hs]
     exact ⟨by omega, by omega, by omega, rfl, rfl, rfl⟩)
  | exact absurd (hi.k s.j (by omega)) (by assumption)
  | exact absurd (hi.k (2 * s.j + 1) (by omega)) (by assumption)
  | exact absurd (hi.k (2 * s.j + 2) (by omega)) (by assumption)
  | (have hk := adg (I := o.v 7721) (m := (o.v 7724).I.toNat) (s := s) (by omega) (by assumption)
     first
      | (have hg := hof (tj hk (by omega) (by assumption))
         rw [hg, hs]; have hi2 := hi
         repeat' refine And.intro ?_ ?_
         all_goals first
          | omega
          | with_reducible rfl
          | with_reducible exact hi.i _ (by omega)
          | with_reducible exact hi2.i _ (by omega)
          | with_reducible exact hi.b _ (by omega)
          | (obtain ⟨q1, q2, q3⟩ := hi.o s.j (by omega); assumption)
          | (obtain ⟨q1, q2, q3⟩ := hi.o (2 * s.j + 1) (by omega); assumption)
          | (obtain ⟨q1, q2, q3⟩ := hi.o (2 * s.j + 2) (by omega); assumption)
          | (rw [hS, hk]; rfl))
      | (have hi2 := iu hi (i := s.j) (j := 2 * s.j + 2) (by omega) (by omega)
         exact absurd (hi2.k s.j (by omega)) (by assumption))
      | (have hi2 := iu hi (i := s.j) (j := 2 * s.j + 2) (by omega) (by omega)
         exact absurd (hi2.k (2 * s.j + 2) (by omega)) (by assumption))
      | (have hi2 := iu hi (i := s.j) (j := 2 * s.j + 1) (by omega) (by omega)
         exact absurd (hi2.k s.j (by omega)) (by assumption))
      | (have hi2 := iu hi (i := s.j) (j := 2 * s.j + 1) (by omega) (by omega)
         exact absurd (hi2.k (2 * s.j + 1) (by omega)) (by assumption))
      | (have hg := hgo (tj hk (by omega) (by assumption))
         have hi2 := iu hi (i := s.j) (j := gV (o.v 7721) s (o.v 7724).I.toNat) (by omega) (by omega)
         rw [hk] at hi2
         repeat' refine And.intro ?_ ?_
         all_goals first
          | omega
          | with_reducible rfl
          | with_reducible exact hi.i _ (by omega)
          | with_reducible exact hi2.i _ (by omega)
          | with_reducible exact hi.b _ (by omega)
          | (obtain ⟨q1, q2, q3⟩ := hi.o s.j (by omega); assumption)
          | (obtain ⟨q1, q2, q3⟩ := hi.o (2 * s.j + 1) (by omega); assumption)
          | (obtain ⟨q1, q2, q3⟩ := hi.o (2 * s.j + 2) (by omega); assumption)
          | (rw [hS, hk]; rfl)))
  | (have hk := aam (I := o.v 7721) (m := (o.v 7724).I.toNat) (s := s) (by assumption)
     first
      | (have hg := hof (tj hk (by omega) (by assumption))
         rw [hg, hs]; have hi2 := hi
         repeat' refine And.intro ?_ ?_
         all_goals first
          | omega
          | with_reducible rfl
          | with_reducible exact hi.i _ (by omega)
          | with_reducible exact hi2.i _ (by omega)
          | with_reducible exact hi.b _ (by omega)
          | (obtain ⟨q1, q2, q3⟩ := hi.o s.j (by omega); assumption)
          | (obtain ⟨q1, q2, q3⟩ := hi.o (2 * s.j + 1) (by omega); assumption)
          | (obtain ⟨q1, q2, q3⟩ := hi.o (2 * s.j + 2) (by omega); assumption)
          | (rw [hS, hk]; rfl))
      | (have hi2 := iu hi (i := s.j) (j := 2 * s.j + 2) (by omega) (by omega)
         exact absurd (hi2.k s.j (by omega)) (by assumption))
      | (have hi2 := iu hi (i := s.j) (j := 2 * s.j + 2) (by omega) (by omega)
         exact absurd (hi2.k (2 * s.j + 2) (by omega)) (by assumption))
      | (have hi2 := iu hi (i := s.j) (j := 2 * s.j + 1) (by omega) (by omega)
         exact absurd (hi2.k s.j (by omega)) (by assumption))
      | (have hi2 := iu hi (i := s.j) (j := 2 * s.j + 1) (by omega) (by omega)
         exact absurd (hi2.k (2 * s.j + 1) (by omega)) (by assumption))
      | (have hg := hgo (tj hk (by omega) (by assumption))
         have hi2 := iu hi (i := s.j) (j := gV (o.v 7721) s (o.v 7724).I.toNat) (by omega) (by omega)
         rw [hk] at hi2
         repeat' refine And.intro ?_ ?_
         all_goals first
          | omega
          | with_reducible rfl
          | with_reducible exact hi.i _ (by omega)
          | with_reducible exact hi2.i _ (by omega)
          | with_reducible exact hi.b _ (by omega)
          | (obtain ⟨q1, q2, q3⟩ := hi.o s.j (by omega); assumption)
          | (obtain ⟨q1, q2, q3⟩ := hi.o (2 * s.j + 1) (by omega); assumption)
          | (obtain ⟨q1, q2, q3⟩ := hi.o (2 * s.j + 2) (by omega); assumption)
          | (rw [hS, hk]; rfl)))
  | (have hk := adB (I := o.v 7721) (m := (o.v 7724).I.toNat) (s := s) (by omega)
     first
      | (have hg := hof (tj hk (by omega) (by assumption))
         rw [hg, hs]; have hi2 := hi
         repeat' refine And.intro ?_ ?_
         all_goals first
          | omega
          | with_reducible rfl
          | with_reducible exact hi.i _ (by omega)
          | with_reducible exact hi2.i _ (by omega)
          | with_reducible exact hi.b _ (by omega)
          | (obtain ⟨q1, q2, q3⟩ := hi.o s.j (by omega); assumption)
          | (obtain ⟨q1, q2, q3⟩ := hi.o (2 * s.j + 1) (by omega); assumption)
          | (obtain ⟨q1, q2, q3⟩ := hi.o (2 * s.j + 2) (by omega); assumption)
          | (rw [hS, hk]; rfl))
      | (have hi2 := iu hi (i := s.j) (j := 2 * s.j + 2) (by omega) (by omega)
         exact absurd (hi2.k s.j (by omega)) (by assumption))
      | (have hi2 := iu hi (i := s.j) (j := 2 * s.j + 2) (by omega) (by omega)
         exact absurd (hi2.k (2 * s.j + 2) (by omega)) (by assumption))
      | (have hi2 := iu hi (i := s.j) (j := 2 * s.j + 1) (by omega) (by omega)
         exact absurd (hi2.k s.j (by omega)) (by assumption))
      | (have hi2 := iu hi (i := s.j) (j := 2 * s.j + 1) (by omega) (by omega)
         exact absurd (hi2.k (2 * s.j + 1) (by omega)) (by assumption))
      | (have hg := hgo (tj hk (by omega) (by assumption))
         have hi2 := iu hi (i := s.j) (j := gV (o.v 7721) s (o.v 7724).I.toNat) (by omega) (by omega)
         rw [hk] at hi2
         repeat' refine And.intro ?_ ?_
         all_goals first
          | omega
          | with_reducible rfl
          | with_reducible exact hi.i _ (by omega)
          | with_reducible exact hi2.i _ (by omega)
          | with_reducible exact hi.b _ (by omega)
          | (obtain ⟨q1, q2, q3⟩ := hi.o s.j (by omega); assumption)
          | (obtain ⟨q1, q2, q3⟩ := hi.o (2 * s.j + 1) (by omega); assumption)
          | (obtain ⟨q1, q2, q3⟩ := hi.o (2 * s.j + 2) (by omega); assumption)
          | (rw [hS, hk]; rfl)))
end
end Go.Proofs.YtdlppkhmmclipaaGreat.sxObj
namespace Go.Proofs.YtdlppkhmmclipaaGreat.sxObj
open Go.Sx
set_option linter.unusedVariables false
set_option maxRecDepth 100000
abbrev SU : E := .v 7770
abbrev z6 : E := eC 0 SU (.v 2206)
abbrev gX : E := .il 0
abbrev or3 : E := .o2 .lt (.v 2206) (.o1 .ab SU)
abbrev or4 : E := .uf 211 (eP SU gX)
abbrev or5 : E := .uf 212 (eP SU gX)
abbrev or6 : E := eP (.v 7771) (eP (.v 7772) (eP (.v 7773) (eP (.v 7774) (eP SU (eP (.v 2206) gX)))))
abbrev S7 : E := .uf 305 or6
abbrev or8 : E := eP (.v 7771) (eP (.v 7772) (eP (.v 7773) (eP (.v 7774) (eP SU (eP or5 gX)))))
abbrev JZ : E := .uf 302 or6
abbrev tC : E := .uf 304 or6
abbrev lX : E := .uf 303 or6
abbrev ad5 : List Ob := oT S7 (.uf 305 or8) (oT JZ (.uf 302 or8) (oP tC (.uf 304 or8) (oO (.o2 .aN lX (.uf 303 or8)) [])))
abbrev Rz : E := .uf 100 (eP (eC 0 z6 gX) (eP (eC 1 z6 gX) gX))
abbrev rh : E := eC 1 tC (.o2 (.mf .s) tC Rz)
abbrev FN : E := .o2 .fA S7 (eP rh (eP z6 (eP (eC 1 S7 rh) gX)))
abbrev ru : E := eC 1 FN rh
abbrev KW : E := eP lX gX
abbrev XT : E := eP JZ (eP tC (eP FN (eP ru KW)))
abbrev acG : E := .o2 .lt ru (.uf 297 XT)
abbrev XH : E := .o2 .le gX (.o2 (.mf .s) tC Rz)
abbrev Va : aa := fF (eC 6 z6 gX) (fT or3 [])
abbrev TY : E := eP gX gX
abbrev IW : E := eP JZ (eP tC (eP FN (eP ru (eP lX TY))))
abbrev r9 : E := .il 1000000
abbrev IE : E := .uf 296 XT
abbrev yB : E := eP (.v 7771) (eP (.v 7772) (eP (.v 7773) (eP (.v 7774) (eP SU (eP (.o2 .add (.v 2206) (.il 1)) gX)))))
abbrev Is : E := .uf 295 XT
abbrev Y4 : List Ob := oP tC (.uf 304 yB) (oO (.o2 .aN lX (.uf 303 yB)) [])
abbrev Xa : E := eP Is (eP tC (eP IE (eP ru TY)))
abbrev aaf : E := eP Is (eP tC (eP IE (eP ru gX)))
abbrev Rt : E := .o2 .fS (.o2 .cJ JZ lX) (eP Rz gX)
abbrev Qp : E := .o2 (.mp .s) tC (eP Rz (eP (.o1 .ab S7) gX))
abbrev Ru : E := .o2 .fS S7 (eP z6 KW)
abbrev II : E := .o2 .add lX (.il 1)
abbrev Ga : E := .o2 .sub II (.il 1)
abbrev VR : E := eP Rt (eP Qp (eP Ru (eP Ga TY)))
abbrev adH : E := eP Rt (eP Qp (eP Ru (eP Ga gX)))
def hbL : List (aa × List Ob) :=
 [(fT (eC 6 z6 gX) (fT or3 []), oO or4 (oO (.uf 110 (eP (eC 0 z6 gX) (eP (eC 1 z6 gX) (eP (eC 4 z6 gX) gX)))) (oT z6 (eC 0 SU or5) ad5))),
  (fT acG (fT XH Va), oO (.o2 .lt (.v 2206) or5) (oT JZ (.uf 291 IW) (oT FN (.uf 292 IW) (oO (.o2 .aN ru (.uf 293 IW)) (oO (.o2 .le (.o1 .ab S7) r9) (oO (.o2 .le (.o1 .ab JZ) r9) (oO (.o2 .le lX r9) (oO (.o2 .le gX lX) (oO (.o2 .le ru r9) (oO (.o2 .le gX ru) (oO (.uf 287 (eP JZ (eP tC (eP FN KW)))) (oO (.o2 .le gX lX) (oO (.o2 .le gX rh) (oO (.o2 .le gX rh) (oO (.o2 .le gX rh) (oO (.o2 .le gX rh) (oO (.o2 .le gX rh) (oO (.o2 .le gX rh) (oO (.uf 110 (eP (eC 0 z6 gX) (eP (eC 1 z6 gX) (eP (eC 4 z6 gX) gX)))) (oT IE (.uf 305 yB) (oT Is (.uf 302 yB) Y4))))))))))))))))))))),
  (fF acG (fT XH Va), oO (.o2 .lt (.v 2206) or5) (oT Is (.uf 281 Xa) (oT IE (.uf 282 Xa) (oO (.o2 .aN ru (.uf 283 Xa)) (oO (.o2 .le (.o1 .ab IE) r9) (oO (.o2 .le (.o1 .ab Is) r9) (oO (.o2 .le lX r9) (oO (.o2 .lt ru lX) (oO (.o2 .le gX ru) (oO (.uf 287 (eP Is (eP tC (eP IE KW)))) (oT JZ (.uf 291 IW) (oT FN (.uf 292 IW) (oO (.o2 .aN ru (.uf 293 IW)) (oO (.o2 .le (.o1 .ab S7) r9) (oO (.o2 .le (.o1 .ab JZ) r9) (oO (.o2 .le lX r9) (oO (.o2 .le gX lX) (oO (.o2 .le ru r9) (oO (.o2 .le gX ru) (oO (.uf 287 (eP JZ (eP tC (eP FN KW)))) (oO (.o2 .le gX lX) (oO (.o2 .le gX rh) (oO (.o2 .le gX rh) (oO (.o2 .le gX rh) (oO (.o2 .le gX rh) (oO (.o2 .le gX rh) (oO (.o2 .le gX rh) (oO (.uf 110 (eP (eC 0 z6 gX) (eP (eC 1 z6 gX) (eP (eC 4 z6 gX) gX)))) (oT (.uf 286 aaf) (.uf 305 yB) (oT (.uf 285 aaf) (.uf 302 yB) Y4)))))))))))))))))))))))))))))),
  (fF XH Va, oO (.o2 .lt (.v 2206) or5) (oT Rt (.uf 281 VR) (oO (.o2 .le lX (.o1 .ab JZ)) (oO (.o2 .le gX lX) (oT Ru (.uf 282 VR) (oO (.o2 .aN Ga (.uf 283 VR)) (oO (.o2 .le (.o2 .add (.o1 .ab S7) (.il 1)) r9) (oO (.o2 .le (.o2 .add (.o1 .ab (.o2 .cJ JZ lX)) (.il 1)) r9) (oO (.o2 .le II r9) (oO (.o2 .lt Ga II) (oO (.o2 .le gX Ga) (oO (.uf 287 (eP Rt (eP Qp (eP Ru (eP II gX))))) (oO (.o2 .le Ga (.il 9223372036854775807)) (oO (.o2 .le (.il (-9223372036854775808)) Ga) (oO (.o2 .le gX II) (oO (.o2 .le lX (.il 2147483648)) (oO (.o2 .le lX (.o1 .ab JZ)) (oO (.o2 .le gX lX) (oO (.o2 .le gX lX) (oO (.uf 110 (eP (eC 0 z6 gX) (eP (eC 1 z6 gX) (eP (eC 4 z6 gX) gX)))) (oT (.uf 286 adH) (.uf 305 yB) (oT (.uf 285 adH) (.uf 302 yB) (oP Qp (.uf 304 yB) (oO (.o2 .aN II (.uf 303 yB)) [])))))))))))))))))))))))),
  (fF or3 [], oO (.o1 .not or4) ad5)]
end Go.Proofs.YtdlppkhmmclipaaGreat.sxObj
