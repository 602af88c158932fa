/-
  What functions have to show, as printed.
-/
import Derived.Test.YtdlppkhmmclipaaGreatSxHpB
import Derived.Test.YtdlppkhmmclipaaGreatSxMLoopH
namespace Go.Proofs.YtdlppkhmmclipaaGreat.sxObj
open Go.Sx Go.RowKit Go.Proofs.YtdlppkhmmclipaaGreat
set_option linter.unusedVariables false
set_option linter.unusedSimpArgs false
theorem adf {I : List Row} (u : o5 I) {k k' : Dv} (hh : 0 <= aQ .s k I) (e : k.S.toList = k'.S.toList) : dN (.t I) k = dN (.t I) k' := by
 obtain ⟨r, hr, q⟩ := ee.1 hh; rw [xq u hr q, xq u hr (q.trans e)]
theorem xk {h : HM} (c : eJ h) {k : Dv} (hh : 0 <= aQ .s k h.I) : ∃ i, i < h.n /\ (h.key i).S.toList = k.S.toList /\ dN (.t h.I) k = dN (.t h.I) (h.key i) := by
 obtain ⟨r, hr, q⟩ := ee.1 hh; obtain ⟨i, hi, e⟩ := c.r r hr; exact ⟨i, hi, e.trans q, adf c.u hh (e.trans q).symm⟩
def bf (h : HM) (k any : Dv) : HM := ⟨h.B, h.n, h.I, h.A.set (dN (.t h.I) k).toNat [any, cc (row (.t h.A) (dN (.t h.I) k).toNat) 1]⟩
def fX (h : HM) (k : Dv) : Int := (cc (row (.t h.A) (dN (.t h.I) k).toNat) 1).I
section
variable {h : HM} {k any : Dv} {i : Nat}
theorem AI (c : eJ h) (hi : i < h.n) (e : dN (.t h.I) k = dN (.t h.I) (h.key i)) : (∀ j, j < h.n -> j ≠ i -> (bf h k any).ob j = h.ob j) /\ (bf h k any).ob i = row any 0 := by
 have hl : (dN (.t h.I) k).toNat < h.A.length := by rw [e]; exact c.dK.l i hi
 constructor
 ·intro j hj hne; show yp (h.A.set _ _) (h.slot j) = yp h.A (h.slot j); unfold yp mg; rw [py hl, if_neg]; intro q; rw [e] at q; exact hne (c.x j i hj hi q)
 ·show yp (h.A.set _ _) (h.slot i) = _; unfold yp mg; rw [py hl, if_pos (by rw [e]; rfl)]; rfl
theorem xu (c : eJ h) (hi : i < h.n) (e : dN (.t h.I) k = dN (.t h.I) (h.key i)) (hk : (h.key i).S.toList = k.S.toList) (hc : jt any k) : eJ (bf h k any) := by
 have hl : (dN (.t h.I) k).toNat < h.A.length := by rw [e]; exact c.dK.l i hi
 obtain ⟨o1, o2⟩ := AI (any := any) c hi e; refine ⟨⟨c.dK.n, c.dK.k, c.dK.i, fun j hj => ?_, fun j hj => ?_, fun j hj => ?_⟩, c.d, c.u, c.r, c.x, fun j hj => ?_, fun j hj => ?_⟩
 ·show _ < (h.A.set _ _).length; rw [List.length_set]; exact c.dK.l j hj
 ·by_cases q : j = i
  ·subst q; show bad ((bf h k any).ob j) = false; rw [o2]; exact hc.b
  ·show bad ((bf h k any).ob j) = false; rw [o1 j hj q]; exact c.dK.b j hj
 ·by_cases q : j = i
  ·subst q; show jg ((bf h k any).ob j); rw [o2]; exact hc.o
  ·show jg ((bf h k any).ob j); rw [o1 j hj q]; exact c.dK.o j hj
 ·show cc (row (.t (h.A.set _ _)) (h.slot j)) 1 = .i (j : Int); rw [py hl]; split
  ·rename_i q; show cc (row (.t h.A) _) 1 = .i (j : Int); rw [<- q]; exact c.p j hj
  ·exact c.p j hj
 ·by_cases q : j = i
  ·subst q; show (kO ((bf h k any).ob j)).toList = (h.key j).S.toList; rw [o2, hk]; exact hc.k
  ·show (kO ((bf h k any).ob j)).toList = (h.key j).S.toList; rw [o1 j hj q]; exact c.k j hj
theorem QB (c : eJ h) (hi : i < h.n) (e : dN (.t h.I) k = dN (.t h.I) (h.key i)) (hk : (h.key i).S.toList = k.S.toList) (x : Row) : (bf h k any).mem x ↔ x = row any 0 \/ (h.mem x /\ (kO x).toList ≠ k.S.toList) := by
 obtain ⟨o1, o2⟩ := AI (any := any) c hi e; constructor
 ·rintro ⟨j, hj, q⟩
  by_cases hji : j = i
  ·subst hji; exact .inl (by rw [<- q, o2])
  ·rw [o1 j hj hji] at q; refine .inr ⟨⟨j, hj, q⟩, fun q2 => hji (c.d j i hj hi ?_)⟩; rw [<- c.k j hj, q, q2, hk]
 ·rintro (rfl | ⟨⟨j, hj, q⟩, hne⟩)
  ·exact ⟨i, hi, o2⟩
  ·have hji : j ≠ i := fun e2 => hne (by rw [<- q, e2, c.k i hi, hk])
   exact ⟨j, hj, by rw [o1 j hj hji]; exact q⟩
def fi (h : HM) (k any : Dv) : HM := gC (bf h k any) h.n (fX (bf h k any) k).toNat
theorem oB (v : fY h) (hh : 0 <= aQ .s k h.I) (hc : jt any k) : fY (fi h k any) /\ (∀ x, (fi h k any).mem x ↔ x = row any 0 \/ (h.mem x /\ (kO x).toList ≠ k.S.toList)) /\ (fi h k any).n = h.n /\ (fi h k any).A.length = h.A.length /\ (fi h k any).B.length = h.B.length /\ (fi h k any).I = h.I /\
    0 <= fX (bf h k any) k /\ (fX (bf h k any) k).toNat < h.n := by
 obtain ⟨i, hi, hk, e⟩ := xk v.c hh; have c := xu (any := any) v.c hi e hk hc; obtain ⟨o1, o2⟩ := AI (any := any) v.c hi e
 have hj : fX (bf h k any) k = i := by
  have := congrArg Dv.I (c.p i hi); unfold fX; show (cc (row (.t (bf h k any).A) (dN (.t h.I) k).toNat) 1).I = i; rw [e]; exact this
 have hp : cz lh (bf h k any).ob h.n i := by
  have := Bm (H := h.ob) (H' := fun j => if j < h.n then (bf h k any).ob j else h.ob j) j6 v.hp (fun j hj => by
   split
   ·rename_i q; exact o1 j q hj
   ·rfl) hi
  refine ⟨fun j j0 jn ji pj => ?_, fun i0 a a0 an ha => ?_⟩
  ·have q := this.a j j0 jn ji pj; rwa [if_pos jn, if_pos (Nat.lt_of_le_of_lt lg jn)] at q
  ·have q := this.b i0 a a0 an ha; rwa [if_pos an, if_pos (Nat.lt_of_le_of_lt lg hi)] at q
 have hf := Fs (h := bf h k any) (j := i) c hi (Nat.le_refl _) hp
 have he : fi h k any = gC (bf h k any) h.n i := by
  unfold fi; rw [hj, Int.toNat_natCast]
 rw [he, hj]; refine ⟨⟨hf.1, ?_⟩, fun x => (hf.2.2.2.2.2.2 x).trans (QB v.c hi e hk x), hf.2.2.1, hf.2.2.2.2.1.trans (List.length_set ..), hf.2.2.2.2.2.1, hf.2.2.2.1, by omega, by rw [Int.toNat_natCast]; exact hi⟩
 rw [hf.2.2.1]; exact hf.2.1
end
theorem sK {h : HM} {k any : Dv} (v : fY h) (hh : 0 <= aQ .s k h.I) (hc : jt any k) : xS (bf h k any) (cU (bf h k any) h.n (fX (bf h k any) k).toNat) (B7 (bf h k any) h.n (fX (bf h k any) k).toNat) := by
 obtain ⟨i, hi, hk, e⟩ := xk v.c hh; have c := xu (any := any) v.c hi e hk hc; obtain ⟨o1, o2⟩ := AI (any := any) v.c hi e
 have hj : fX (bf h k any) k = i := by
  have := congrArg Dv.I (c.p i hi); unfold fX; show (cc (row (.t (bf h k any).A) (dN (.t h.I) k).toNat) 1).I = i; rw [e]; exact this
 have hp : cz lh (bf h k any).ob h.n i := by
  have := Bm (H := h.ob) (H' := fun j => if j < h.n then (bf h k any).ob j else h.ob j) j6 v.hp (fun j hj => by
   split
   ·rename_i q; exact o1 j q hj
   ·rfl) hi
  refine ⟨fun j j0 jn ji pj => ?_, fun i0 a a0 an ha => ?_⟩
  ·have q := this.a j j0 jn ji pj; rwa [if_pos jn, if_pos (Nat.lt_of_le_of_lt lg jn)] at q
  ·have q := this.b i0 a a0 an ha; rwa [if_pos an, if_pos (Nat.lt_of_le_of_lt lg hi)] at q
 rw [hj, Int.toNat_natCast]; exact (iP c hi (Nat.le_refl _) hp).1
def dS (h : HM) (m : Nat) : HM := ⟨h.B, m, nV .s h.I (h.key m), h.A⟩
theorem Bu {h : HM} {m : Nat} (c : eJ h) (hn : h.n = m + 1) (hp : iQ lh h.ob m) : fY (dS h m) /\ (∀ x, (dS h m).mem x ↔ h.mem x /\ (kO x).toList ≠ (h.key m).S.toList) := by
 have lt : ∀ {i}, i < m -> i < h.n := fun q => by omega
 have hm : m < h.n := by omega
 have ne : ∀ i, i < m -> (h.key i).S.toList ≠ (h.key m).S.toList := fun i hi e => by
  have := c.d i m (lt hi) hm e; omega
 have s : ∀ i, i < m -> 0 <= aQ .s (h.key i) (dS h m).I /\ dN (.t (dS h m).I) (h.key i) = dN (.t h.I) (h.key i) := fun i hi => X6 c.u (c.dK.k i (lt hi)) (ne i hi)
 have o : ∀ i, i < m -> (dS h m).ob i = h.ob i := fun i hi => by
  show yp h.A (dN (.t (dS h m).I) (h.key i)).toNat = yp h.A (dN (.t h.I) (h.key i)).toNat; rw [(s i hi).2]
 have sl : ∀ i, i < m -> (dS h m).slot i = h.slot i := fun i hi => congrArg Int.toNat (s i hi).2; refine ⟨⟨⟨⟨?_, fun i hi => (s i hi).1, fun i hi => ?_, fun i hi => ?_, fun i hi => ?_, fun i hi => ?_⟩, fun i j hi hj e => c.d i j (lt hi) (lt hj) e, DU c.u, fun r hr => ?_, fun i j hi hj e => ?_, fun i hi => ?_, fun i hi => ?_⟩, fun i i0 hi => ?_⟩, fun x => ?_⟩
 ·have := c.dK.n; show m <= h.B.length; omega
 ·show 0 <= dN (.t (dS h m).I) (h.key i); rw [(s i hi).2]; exact c.dK.i i (lt hi)
 ·show (dN (.t (dS h m).I) (h.key i)).toNat < _; rw [(s i hi).2]; exact c.dK.l i (lt hi)
 ·show bad ((dS h m).ob i) = false; rw [o i hi]; exact c.dK.b i (lt hi)
 ·show jg ((dS h m).ob i); rw [o i hi]; exact c.dK.o i (lt hi)
 ·obtain ⟨hr, hne⟩ := (Ho c.u).1 hr; obtain ⟨i, hi, e⟩ := c.r r hr; refine ⟨i, ?_, e⟩; show i < m; rcases Nat.lt_or_ge i m with q | q
  ·exact q
  ·have : i = m := by omega
   subst this; exact absurd e.symm hne
 ·rw [sl i hi, sl j hj] at e; exact c.x i j (lt hi) (lt hj) e
 ·rw [sl i hi]; exact c.p i (lt hi)
 ·rw [o i hi]; exact c.k i (lt hi)
 ·rw [o i hi, o _ (Nat.lt_of_le_of_lt lg hi)]; exact hp i i0 hi
 ·constructor
  ·rintro ⟨i, hi, q⟩; have hi : i < m := hi; rw [o i hi] at q; refine ⟨⟨i, lt hi, q⟩, ?_⟩; rw [<- q, c.k i (lt hi)]; exact ne i hi
  ·rintro ⟨⟨i, hi, q⟩, hne⟩
   have : i < m := by
    rcases Nat.lt_or_ge i m with q2 | q2
    ·exact q2
    ·have : i = m := by omega
     subst this; exact absurd (by rw [<- q, c.k i hi]) hne
   exact ⟨i, this, by rw [o i this]; exact q⟩
theorem Gr {h : HM} {j m : Nat} (hj : j < m) (hm : m <= h.B.length) : ∀ t k, m <= k -> mg (qo h j t).B k = mg h.B k
 | 0, _, _ => rfl
 | t + 1, k, hk => by
   have ih := Gr hj hm t k hk; have hl := Vn (B := .t h.B) (I := .t h.I) (A := .t h.A) (j := j) t; have hjt := Vq (B := .t h.B) (I := .t h.I) (A := .t h.A) (j := j) t; have hjt : (qo h j t).j <= j := hjt; have hbl : (qo h j t).B.length = h.B.length := hl.1; have hpl := lg (j := (qo h j t).j); show mg (zG (qo h j t).B (par (qo h j t).j) (qo h j t).j) k = _; rw [uq (by omega) (by omega), ot (by omega) (by omega), ih]
theorem vv {h : HM} {j m : Nat} (hm : m <= h.B.length) : ∀ t k, t <= zK h m j -> m <= k -> mg (pL h m j t).B k = mg h.B k
 | 0, _, _, _ => rfl
 | t + 1, k, ht, hk => by
   have ih := vv (j := j) hm t k (by omega) hk
   have hl := FK (B := .t h.B) (I := .t h.I) (A := .t h.A) (m := m) (j := j) t; have hbl : (pL h m j t).B.length = h.B.length := hl.1; have hg := Lo (G3 (h := h) (m := m) (j := j) (t := t) (by omega))
   have hkm := G9 (I := .t h.I) hg; show mg (zG (pL h m j t).B (pL h m j t).j (gV (.t h.I) (pL h m j t) m)) k = _; rw [uq (by omega) (by omega), ot (by omega) (by omega), ih]
theorem M9 {h : HM} {j m k : Nat} (hj : j < m) (hm : m <= h.B.length) (hk : m <= k) : (gC h m j).key k = h.key k := by
 have hd : (cU h m j).key k = h.key k := vv hm _ k (Nat.le_refl _) hk; have hl := FK (B := .t h.B) (I := .t h.I) (A := .t h.A) (m := m) (j := j) (zK h m j); unfold gC; split
 ·exact hd
 ·refine Eq.trans ?_ hd
  exact Gr (h := cU h m j) hj (by
   have : (cU h m j).B.length = h.B.length := hl.1
   omega) _ k hk
def je (h : HM) (i : Nat) : HM := if i = h.n - 1 then dS h (h.n - 1) else dS (gC (bo h i (h.n - 1)) (h.n - 1) i) (h.n - 1)
theorem Vp {h : HM} {i : Nat} (v : fY h) (hi : i < h.n) : fY (je h i) /\ ∀ x, (je h i).mem x ↔ h.mem x /\ (kO x).toList ≠ (h.key i).S.toList := by
 have hn := v.c.dK.n; unfold je; split
 ·rename_i e; obtain ⟨a, b⟩ := Bu (m := h.n - 1) v.c (by omega) fun k k0 hk => v.hp k k0 (by omega)
  rw [e]; exact ⟨a, b⟩
 ·rename_i e; have hm : h.n - 1 < h.n := by omega
  have c := fj v.c hi hm; have hb : h.n - 1 < h.B.length := by omega
  have hpd : cz lh (bo h i (h.n - 1)).ob (h.n - 1) i := by
   rw [jk (by omega) hb]
   refine dB j6 ?_ (by omega)
   rw [show h.n - 1 + 1 = h.n by omega]
   exact v.hp
  have hsn : (bo h i (h.n - 1)).n = h.n := rfl; obtain ⟨f1, f2, f3, f4, f5, f6, f7⟩ := Fs c (show i < h.n - 1 by omega) (by rw [hsn]; omega) hpd
  obtain ⟨a, b⟩ := Bu (m := h.n - 1) f1 (by rw [f3, hsn]; omega) f2
  have hbl : (bo h i (h.n - 1)).B.length = h.B.length := fq
  have hk : (gC (bo h i (h.n - 1)) (h.n - 1) i).key (h.n - 1) = h.key i := by
   rw [M9 (show i < h.n - 1 by omega) (by rw [hbl]; omega) (Nat.le_refl _), BS (by omega) hb, tT]
  refine ⟨a, fun x => ?_⟩; rw [b, hk, f7, Bq hi hm hn]
def ux (h : HM) : HM := dS (cU (bo h 0 (h.n - 1)) (h.n - 1) 0) (h.n - 1)
theorem L7 {h : HM} (v : fY h) (h0 : 0 < h.n) : fY (ux h) /\ (∀ x, (ux h).mem x ↔ h.mem x /\ (kO x).toList ≠ (h.key 0).S.toList) /\ (∀ k, k < h.n -> lh (h.ob k) (h.ob 0) = false) := by
 have hn := v.c.dK.n; have hm : h.n - 1 < h.n := by omega
 have c := fj v.c h0 hm; have hb : h.n - 1 < h.B.length := by omega
 have hsn : (bo h 0 (h.n - 1)).n = h.n := rfl
 have hpd : cz lh (bo h 0 (h.n - 1)).ob (h.n - 1) 0 := by
  rcases Nat.eq_zero_or_pos (h.n - 1) with q | q
  ·rw [q]; exact ⟨fun k k0 kn => by omega, fun q => absurd q (Nat.lt_irrefl _)⟩
  ·rw [jk (by omega) hb]
   refine dB j6 ?_ q; rw [show h.n - 1 + 1 = h.n by omega]
   exact v.hp
 obtain ⟨u, p, f, g⟩ := iP c (j := 0) (m := h.n - 1) (by rw [hsn]; exact h0) (by rw [hsn]; omega) hpd
 have hh : iQ lh (cU (bo h 0 (h.n - 1)) (h.n - 1) 0).ob (h.n - 1) := As p (by
  rcases Nat.eq_zero_or_pos (B7 (bo h 0 (h.n - 1)) (h.n - 1) 0) with q | q
  ·exact .inl q
  ·exact .inr (f q q))
 obtain ⟨a, b⟩ := Bu (m := h.n - 1) u.c (by rw [u.n, hsn]; omega) hh
 have hbl : (bo h 0 (h.n - 1)).B.length = h.B.length := fq
 have hk : (cU (bo h 0 (h.n - 1)) (h.n - 1) 0).key (h.n - 1) = h.key 0 := by
  have : (cU (bo h 0 (h.n - 1)) (h.n - 1) 0).key (h.n - 1) = (bo h 0 (h.n - 1)).key (h.n - 1) := vv (by rw [hbl]; omega) _ _ (Nat.le_refl _) (Nat.le_refl _)
  rw [this, BS (by omega) hb, tT]
 refine ⟨a, fun x => ?_, root j6 v.hp⟩; show (dS _ _).mem x ↔ _; rw [b, hk, u.m, Bq h0 hm hn]
theorem CM (k : ByteArray) : jG [.s k] = k.toList := by
 unfold jG; rw [toList_data]; rfl
theorem yZ {S : List Row} (h : K4 S) : eL (S.map bP) = S.map bP := by
 unfold eL
 have e : (S.map bP).map jG = S.map kl := by
  rw [List.map_map]; exact List.map_congr_left fun r _ => CM _
 rw [e, List.mergeSort_of_pairwise]
 ·rw [List.map_map]; refine List.map_congr_left fun r _ => ?_; show KG (kl r) = bP r; unfold KG bP kl
  congr 2
  rw [toList_data]
 ·refine List.pairwise_map.2 (h.imp fun {a b} hl => ?_); unfold leB; have := List.lt_asymm hl; simpa using List.not_lt.1 this
section
variable {S M : List Row} {now ttl : Int}
end
theorem FO {l : Dv} {n : Nat} (hn : n < l.T.length) : jP (.t (l.T.map lC)) n = nine (row l n) := by
 unfold jP; rw [iB hn]; rfl
theorem MB {l : Dv} {n : Nat} (hn : n < l.T.length) : qa (.t (l.T.map lC)) n ↔ qb l n := by
 unfold qa qb; rw [FO hn]; exact Iff.rfl
theorem KW {l : Dv} : eg (qa (.t (l.T.map lC))) (Dv.t (l.T.map lC)).T.length ↔ eg (qb l) l.T.length := by
 have e : (Dv.t (l.T.map lC)).T.length = l.T.length := List.length_map ..; rw [e]; exact ⟨fun h j hj => (MB hj).1 (h j hj), fun h j hj => (MB hj).2 (h j hj)⟩
theorem Hn {l : Dv} (h : dF l.T) : AD (.t (l.T.map lC)) := fun j hj => by
 have hj : j < l.T.length := by rw [Tx, List.length_map] at hj; exact hj
 rw [FO hj]; exact cF h hj
structure SpG (s : Sp) : Prop where
 g : Good s.S
 u : o5 s.M
def fu (h : HM) (k any : Dv) : HM := if 0 <= aQ .s k h.I then fi h k any else jN h k any
def mo (l : Dv) (h : HM) : Nat -> HM
 | 0 => h
 | r + 1 => fu (mo l h r) (de l r) (cc (row l r) 0)
def RX (ks I A : Dv) : List Row := ks.T.map fun k => [mg A.T (dN I (cc k 0)).toNat]
def Wr (ks I : Dv) : Prop := ∀ k ∈ ks.T, 0 <= aQ .s (cc k 0) I.T /\ 0 <= dN I (cc k 0)
def bL (l : Dv) : Nat -> Nat
 | 0 => 0
 | n + 1 => if dq (cc (row l n) 5).S (cc (row l (bL l n)) 5).S = true then n else bL l n
structure NU where
 S : List Row
 c : Bool
 h : HM
def hZ (p : Row) : Dv := .s (bd p)
def dM (p : Row) : Dv := .t [nine (dG p)]
def Rw (S : List Row) (l : Dv) : Nat -> List Row
 | 0 => S
 | n + 1 => ew (.t (Rw S l n)) (jo (cc (row l n) 0).S (cc (row l n) 1).S) (eight (row l n))
noncomputable def bN (p : Row) (s : NU) : NU × Row :=
 if ((cc p 0).I = 1 \/ (cc p 0).I = 3 \/ (cc p 0).I = 4 \/ (cc p 0).I = 8) /\ (cc p 7).B = true then (s, aY 1 false [] [])
 else if (cc p 0).I = 1 then
  (if s.c = true then (s, aY 5 false [] []) else (⟨ew (.t s.S) (bd p) (dG p), s.c, fu s.h (hZ p) (dM p)⟩, aY 0 false [] []))
 else if (cc p 0).I = 3 then
  (if s.c = true then (s, aY 5 false [] []) else if gZ (.t s.S) (bd p) = true then (s, aY 0 false [] []) else (⟨ew (.t s.S) (bd p) (dG p), s.c, jN s.h (hZ p) (dM p)⟩, aY 0 false [] []))
 else if (cc p 0).I = 2 then
  (if s.c = true then (s, aY 5 false [] []) else (⟨Rw s.S (cc p 9) (gN (qb (cc p 9)) (cc p 9).T.length), s.c, mo (.t ((cc p 9).T.map lC)) s.h (gN (qb (cc p 9)) (cc p 9).T.length)⟩, aY (if dec (eg (qb (cc p 9)) (cc p 9).T.length) = true then 0 else 1) false [] []))
 else if (cc p 0).I = 4 then
  (if gZ (.t s.S) (bd p) = true then (⟨cO (.t s.S) (bd p), s.c, je s.h (fX s.h (hZ p)).toNat⟩, aY 0 false [] []) else (s, aY 14 false [] []))
 else if (cc p 0).I = 5 then
  (if s.S = [] then (s, aY (if s.c = true then 5 else 99) false [] [])
  else (⟨cO (.t s.S) (kS (row (.t s.S) (bL (.t s.S) s.S.length))), s.c, ux s.h⟩, aY 0 false [row (.t s.S) (bL (.t s.S) s.S.length)] []))
 else if (cc p 0).I = 6 then (s, aY 0 false s.S [])
 else if (cc p 0).I = 7 then (s, aY 0 false [] (s.S.map bP))
 else if (cc p 0).I = 8 then
  (if gZ (.t s.S) (bd p) = true then (s, aY 0 true [row (.t s.S) (iL (.t s.S) (bd p))] []) else (s, aY 0 false [] []))
 else if (cc p 0).I = 10 then
  (if gZ (.t s.S) (cc p 10).S = true then (s, aY 0 true [row (.t s.S) (iL (.t s.S) (cc p 10).S)] []) else (s, aY 0 false [] []))
 else if (cc p 0).I = 9 then (⟨s.S, true, s.h⟩, aY 0 false [] [])
 else (s, aY 0 false [] [])
noncomputable def gU (ops : Dv) : Nat -> NU
 | 0 => ⟨[], false, ⟨[], 0, [], []⟩⟩
 | n + 1 => (bN (row ops n) (gU ops n)).1
noncomputable def kY (ops : Dv) : List Row := (List.range ops.T.length).map fun n => (bN (row ops n) (gU ops n)).2
def qhf (l : Dv) (j : Nat) : Prop := jg (dG (row l j)) /\ dF (cc (row l j) 9).T /\ (cc (row l j) 9).T.length <= 20
def tD (l : Dv) : Prop := eg (qhf l) l.T.length /\ l.T.length <= 2000
def wX (d : Dv) : HM := ⟨(ar d 0).T, (ar d 1).I.toNat, (ar d 2).T, (ar d 3).T⟩
noncomputable def aeo (c : Nat) (d : Dv) : Dv :=
 match c with
 | 300 => .t (RX (ar d 0) (ar d 1) (ar d 2))
 | 301 => .b (dec (Wr (ar d 0) (ar d 1)))
 | 302 => .t (mo (ar d 4) (wX d) (ar d 5).I.toNat).B
 | 303 => .i (mo (ar d 4) (wX d) (ar d 5).I.toNat).n
 | 304 => .t (mo (ar d 4) (wX d) (ar d 5).I.toNat).I
 | 305 => .t (mo (ar d 4) (wX d) (ar d 5).I.toNat).A
 | 308 => .b (dec (fY (wX d)))
 | 310 => .t (gU (ar d 0) (ar d 1).I.toNat).h.B
 | 311 => .i (gU (ar d 0) (ar d 1).I.toNat).h.n
 | 312 => .t (gU (ar d 0) (ar d 1).I.toNat).h.I
 | 313 => .t (gU (ar d 0) (ar d 1).I.toNat).h.A
 | 314 => .b (gU (ar d 0) (ar d 1).I.toNat).c
 | 315 => .t (kY (ar d 0))
 | 316 => .b (dec (tD (ar d 0)))
 | 317 => .t (gU (ar d 0) (ar d 0).T.length).h.A
 | 318 => .i (bL (ar d 0) (ar d 0).T.length : Nat)
 | 319 => .i (bL (ar d 0) (ar d 1).I.toNat : Nat)
 | 320 => .t (gU (ar d 0) (ar d 1).I.toNat).S
 | 321 => .t (Rw (ar d 0).T (ar d 1) (ar d 2).I.toNat)
 | _ => .i 0
def OJ (o : Env) : Prop := ∀ c d, 300 <= c -> c < 330 -> o.uf c d = aeo c d
theorem OJ.aA {o o' : Env} (h : OJ o) (e : o'.uf = o.uf) : OJ o' := fun c d h1 h2 => by rw [e]; exact h c d h1 h2
theorem OJ.hb {o : Env} (h : OJ o) : (∀ d, o.uf 300 d = .t (RX (ar d 0) (ar d 1) (ar d 2))) /\ (∀ d, o.uf 301 d = .b (dec (Wr (ar d 0) (ar d 1)))) /\ (∀ d, o.uf 302 d = .t (mo (ar d 4) (wX d) (ar d 5).I.toNat).B) /\ (∀ d, o.uf 303 d = .i (mo (ar d 4) (wX d) (ar d 5).I.toNat).n) /\
    (∀ d, o.uf 304 d = .t (mo (ar d 4) (wX d) (ar d 5).I.toNat).I) /\ (∀ d, o.uf 305 d = .t (mo (ar d 4) (wX d) (ar d 5).I.toNat).A) /\ (∀ d, o.uf 308 d = .b (dec (fY (wX d)))) :=
 ⟨fun d => h 300 d (by decide) (by decide), fun d => h 301 d (by decide) (by decide), fun d => h 302 d (by decide) (by decide), fun d => h 303 d (by decide) (by decide), fun d => h 304 d (by decide) (by decide), fun d => h 305 d (by decide) (by decide), fun d => h 308 d (by decide) (by decide)⟩
theorem OJ.hp {o : Env} (h : OJ o) : (∀ d, o.uf 310 d = .t (gU (ar d 0) (ar d 1).I.toNat).h.B) /\ (∀ d, o.uf 311 d = .i (gU (ar d 0) (ar d 1).I.toNat).h.n) /\ (∀ d, o.uf 312 d = .t (gU (ar d 0) (ar d 1).I.toNat).h.I) /\ (∀ d, o.uf 313 d = .t (gU (ar d 0) (ar d 1).I.toNat).h.A) /\
    (∀ d, o.uf 314 d = .b (gU (ar d 0) (ar d 1).I.toNat).c) /\ (∀ d, o.uf 315 d = .t (kY (ar d 0))) /\ (∀ d, o.uf 316 d = .b (dec (tD (ar d 0)))) /\ (∀ d, o.uf 317 d = .t (gU (ar d 0) (ar d 0).T.length).h.A) /\
    (∀ d, o.uf 318 d = .i (bL (ar d 0) (ar d 0).T.length : Nat)) /\ (∀ d, o.uf 319 d = .i (bL (ar d 0) (ar d 1).I.toNat : Nat)) /\ (∀ d, o.uf 320 d = .t (gU (ar d 0) (ar d 1).I.toNat).S) /\ (∀ d, o.uf 321 d = .t (Rw (ar d 0).T (ar d 1) (ar d 2).I.toNat)) :=
 ⟨fun d => h 310 d (by decide) (by decide), fun d => h 311 d (by decide) (by decide), fun d => h 312 d (by decide) (by decide), fun d => h 313 d (by decide) (by decide), fun d => h 314 d (by decide) (by decide), fun d => h 315 d (by decide) (by decide), fun d => h 316 d (by decide) (by decide), fun d => h 317 d (by decide) (by decide), fun d => h 318 d (by decide) (by decide), fun d => h 319 d (by decide) (by decide), fun d => h 320 d (by decide) (by decide), fun d => h 321 d (by decide) (by decide)⟩
theorem LC {l : List Row} {x : Row} : (jI .s l x).length <= l.length + 1 := by
 unfold jI; split
 ·rw [List.length_set]; omega
 ·rw [List.length_append]; exact Nat.le_refl _
theorem xK {l : List Row} {k : Dv} : (nV .s l k).length <= l.length := by
 unfold nV; split
 ·exact (List.eraseIdx_sublist ..).length_le
 ·exact Nat.le_refl _
structure ZK (h h' : HM) (m : Nat) : Prop where
 n : h'.n <= h.n + m
 b : h'.B.length <= h.B.length + m
 i : h'.I.length <= h.I.length + m
 a : h'.A.length <= h.A.length + m
theorem Nx {h : HM} {k any : Dv} (v : fY h) (hc : jt any k) : fY (fu h k any) /\ (∀ x, (fu h k any).mem x ↔ x = row any 0 \/ (h.mem x /\ (kO x).toList ≠ k.S.toList)) /\ ZK h (fu h k any) 1 := by
 have hn := v.c.dK.n; unfold fu; split
 ·rename_i hh; obtain ⟨a, b, c, d, e, f, _⟩ := oB v hh hc; exact ⟨a, b, by omega, by omega, by rw [f]; omega, by omega⟩
 ·rename_i hh; obtain ⟨a, b, c, d, e, f⟩ := OK v hh hc; refine ⟨a, fun x => (b x).trans ⟨fun q => q.elim .inl fun q => .inr ⟨q, fun e2 => hh ?_⟩, fun q => q.elim .inl fun q => .inr q.1⟩, by omega, by omega, by rw [f]; exact LC, by omega⟩
  obtain ⟨i, hi, q⟩ := q; obtain ⟨r, hr, e3⟩ := ee.1 (v.c.dK.k i hi); refine ee.2 ⟨r, hr, e3.trans ?_⟩; rw [<- e2, <- q]; exact (v.c.k i hi).symm
theorem ry {l : Dv} {r : Nat} (h1 : qa l r) (h2 : Ra (cc (jP l r) 0) (cc (jP l r) 1) (cc (jP l r) 4)) : jt (cc (row l r) 0) (de l r) := ⟨h1, h2, rfl⟩
theorem TK {l : Dv} {h : HM} (v : fY h) (hl : AD l) : ∀ r, r <= l.T.length -> (∀ j, j < r -> qa l j) -> fY (mo l h r) /\ ZK h (mo l h r) r
 | 0, _, _ => ⟨v, Nat.le_refl _, Nat.le_refl _, Nat.le_refl _, Nat.le_refl _⟩
 | r + 1, hr, hq => by
   obtain ⟨a, b⟩ := TK v hl r (by omega) fun j hj => hq j (by omega)
   obtain ⟨c, _, d⟩ := Nx a (ry (hq r (by omega)) (hl r (by omega)))
   have := b.n; have := b.b; have := b.i; have := b.a; have := d.n; have := d.b; have := d.i; have := d.a; exact ⟨c, by show (fu _ _ _).n <= _; omega, by show (fu _ _ _).B.length <= _; omega, by show (fu _ _ _).I.length <= _; omega, by show (fu _ _ _).A.length <= _; omega⟩
structure Rel (S : List Row) (h : HM) : Prop where
 a : ∀ x ∈ S, ∃ y, h.mem y /\ eight y = x
 b : ∀ y, h.mem y -> eight y ∈ S
theorem ql {S : List Row} (g : Good S) {x : Row} (hx : x ∈ S) : kl x = (kO x).toList := by
 unfold kl kS; rw [g.g x hx]; rfl
theorem A5 {S : List Row} {h : HM} (g : Good S) (r : Rel S h) (v : fY h) {k : Dv} : 0 <= aQ .s k h.I ↔ ∃ x ∈ S, kl x = k.S.toList := by
 constructor
 ·intro hh; obtain ⟨i, hi, hk, _⟩ := xk v.c hh; have hm := r.b _ ⟨i, hi, rfl⟩; refine ⟨_, hm, ?_⟩; rw [ql g hm, <- hk, <- v.c.k i hi]; rfl
 ·rintro ⟨x, hx, e⟩; obtain ⟨y, ⟨i, hi, q⟩, rfl⟩ := r.a x hx; obtain ⟨z, hz, q2⟩ := ee.1 (v.c.dK.k i hi); refine ee.2 ⟨z, hz, q2.trans ?_⟩; rw [<- e, ql g hx]; have := v.c.k i hi; rw [q] at this; exact this.symm
theorem eX {S : List Row} {h : HM} (g : Good S) (r : Rel S h) (v : fY h) {k : ByteArray} : 0 <= aQ .s (.s k) h.I ↔ gZ (.t S) k = true := by
 rw [A5 g r v]; constructor
 ·rintro ⟨x, hx, e⟩
  by_cases hq : gZ (.t S) k = true
  ·exact hq
  ·exfalso; rcases rN (k := k) x hx with q | q | q
   ·exact lM (nB q) e
   ·have hx2 := hx; rw [<- List.take_append_drop (iL (.t S) k) S] at hx2; rcases List.mem_append.1 hx2 with q2 | q2
    ·exact lM (nB q2) e
    ·have hu : J3 S k = iL (.t S) k := by unfold J3; rw [if_neg hq]
     rw [<- hu] at q2; exact lM (kc g.i q2) e.symm
   ·exact lM (kc g.i q) e.symm
 ·intro q; obtain ⟨hl, e⟩ := mu q; exact ⟨_, List.getElem_mem hl, e⟩
theorem O3 {S : List Row} {h h' : HM} (g : Good S) (r : Rel S h) {k : ByteArray} {o z : Row} (hz : eight z = o) (hm : ∀ x, h'.mem x ↔ x = z \/ (h.mem x /\ (kO x).toList ≠ k.toList)) : Rel (ew (.t S) k o) h' := by
 constructor
 ·intro x hx; rcases (mq g.i).1 hx with rfl | ⟨hx, hne⟩
  ·exact ⟨z, (hm z).2 (.inl rfl), hz⟩
  ·obtain ⟨y, hy, e⟩ := r.a x hx; refine ⟨y, (hm y).2 (.inr ⟨hy, ?_⟩), e⟩; rw [ql g hx, <- e] at hne; exact hne
 ·intro y hy; rcases (hm y).1 hy with rfl | ⟨hy, hne⟩
  ·rw [hz]; exact (mq g.i).2 (.inl rfl)
  ·have hx := r.b y hy; refine (mq g.i).2 (.inr ⟨hx, ?_⟩); rw [ql g hx]; exact hne
theorem N7 {S : List Row} {h h' : HM} (g : Good S) (r : Rel S h) {k : ByteArray} (hm : ∀ x, h'.mem x ↔ h.mem x /\ (kO x).toList ≠ k.toList) : Rel (cO (.t S) k) h' := by
 constructor
 ·intro x hx; obtain ⟨hx, hne⟩ := (jl g.i).1 hx; obtain ⟨y, hy, e⟩ := r.a x hx; refine ⟨y, (hm y).2 ⟨hy, ?_⟩, e⟩; rw [ql g hx, <- e] at hne; exact hne
 ·intro y hy; obtain ⟨hy, hne⟩ := (hm y).1 hy; have hx := r.b y hy; refine (jl g.i).2 ⟨hx, ?_⟩; rw [ql g hx]; exact hne
theorem jh {l : Dv} : ∀ n, 0 < n -> bL l n < n
 | n + 1, _ => by
   unfold bL; split
   ·exact Nat.lt_succ_self n
   ·rcases Nat.eq_zero_or_pos n with q | q
    ·subst q; exact Nat.lt_succ_self _
    ·exact Nat.lt_succ_of_lt (jh n q)
theorem zO {S : List Row} (g : Good S) : ∀ n, n <= S.length -> ∀ j, j < n -> lh (row (.t S) j) (row (.t S) (bL (.t S) n)) = false
 | n + 1, hn, j, hj => by
   have ih := zO g n (by omega)
   unfold bL; split
   ·rename_i hb; rw [uj, decide_eq_true_eq] at hb; rcases Nat.lt_or_ge j n with q | q
    ·have h1 := ih j q; rw [<- Bool.not_eq_true, pE] at h1 ⊢; intro h2
     have cV : (cc (row (.t S) n) 5).S.toList < (cc (row (.t S) j) 5).S.toList := by
      rcases Y0 (cc (row (.t S) j) 5).S.toList (cc (row (.t S) (bL (.t S) n)) 5).S.toList with p | p | p
      ·exact absurd (.inl p) h1
      ·rw [p]; exact hb
      ·exact List.lt_trans hb p
     rcases h2 with h2 | ⟨h2, _⟩
     ·exact List.lt_asymm cV h2
     ·rw [h2] at cV; exact List.lt_irrefl _ cV
    ·have : j = n := by omega
     rw [this]; exact Zr j6 _
   ·rename_i hb; rcases Nat.lt_or_ge j n with q | q
    ·exact ih j q
    ·have e : j = n := by omega
     subst e; rcases Nat.eq_zero_or_pos j with p | p
     ·subst p; exact Zr j6 _
     ·rw [Bool.not_eq_true, uj, decide_eq_false_iff_not] at hb; rw [<- Bool.not_eq_true, pE]; rintro (h2 | ⟨_, h2⟩)
      ·exact hb h2
      ·have hl := jh (l := .t S) j p; have h3 := List.pairwise_iff_getElem.1 g.i _ _ (show bL (.t S) j < S.length by omega) (show j < S.length by omega) hl
       have e1 := ic (l := .t S) (show bL (.t S) j < S.length by omega)
       have e2 := ic (l := .t S) (show j < S.length by omega)
       have h3 : (kl (row (.t S) (bL (.t S) j))) < (kl (row (.t S) j)) := by rw [e1, e2]; exact h3
       rw [ql g (ef (d := .t S) (show bL (.t S) j < S.length by omega)), ql g (ef (d := .t S) (show j < S.length by omega))] at h3
       exact List.lt_asymm h3 h2
theorem yg {S : List Row} {h : HM} (g : Good S) (r : Rel S h) (v : fY h) (h0 : 0 < h.n) (hm : ∀ k, k < h.n -> lh (h.ob k) (h.ob 0) = false) : eight (h.ob 0) = row (.t S) (bL (.t S) S.length) /\ 0 < S.length := by
 have hx := r.b _ ⟨0, h0, rfl⟩; have hS : 0 < S.length := List.length_pos_of_mem hx; refine ⟨?_, hS⟩; have hl := jh (l := .t S) S.length hS; have hy : row (.t S) (bL (.t S) S.length) ∈ S := ef (d := .t S) hl; obtain ⟨y, ⟨i, hi, q⟩, e⟩ := r.a _ hy; obtain ⟨n, hn, en⟩ := mem_row (d := .t S) hx; have h1 := zO g S.length (Nat.le_refl _) n hn; rw [en, <- e] at h1; have h2 := hm i hi; rw [q] at h2; have h1 : lh (h.ob 0) y = false := h1; rw [<- e]
 have hk : (kO (h.ob 0)).toList = (kO y).toList := by
  rw [<- Bool.not_eq_true, pE] at h1 h2; rcases Y0 (cc (h.ob 0) 5).S.toList (cc y 5).S.toList with p | p | p
  ·exact absurd (.inl p) h1
  ·rcases Y0 (kO (h.ob 0)).toList (kO y).toList with s | s | s
   ·exact absurd (.inr ⟨p, s⟩) h1
   ·exact s
   ·exact absurd (.inr ⟨p.symm, s⟩) h2
  ·exact absurd (.inl p) h2
 have hi0 : 0 = i := v.c.d 0 i h0 hi (by rw [<- v.c.k 0 h0, <- v.c.k i hi, q]; exact hk)
 subst hi0; rw [q]
theorem lK {S : List Row} {h : HM} (r : Rel S h) : S = [] ↔ h.n = 0 := by
 constructor
 ·intro e; rcases Nat.eq_zero_or_pos h.n with q | q
  ·exact q
  ·have := r.b _ ⟨0, q, rfl⟩; rw [e] at this; cases this
 ·intro e; cases S with
  | nil => rfl
  | cons x l =>
    obtain ⟨y, ⟨i, hi, _⟩, _⟩ := r.a x (List.mem_cons_self ..); omega
structure yz (S : List Row) (h : HM) (m : Nat) : Prop where
 g : Good S
 o : dF S
 l : S.length <= m
 v : fY h
 r : Rel S h
 n : h.n <= m
 b : h.B.length <= m
 i : h.I.length <= m
 a : h.A.length <= m
theorem yz.up {S : List Row} {h : HM} {m m' : Nat} (G : yz S h m) (e : m <= m') : yz S h m' :=
 ⟨G.g, G.o, Nat.le_trans G.l e, G.v, G.r, Nat.le_trans G.n e, Nat.le_trans G.b e, Nat.le_trans G.i e, Nat.le_trans G.a e⟩
theorem yz.nil : yz [] ⟨[], 0, [], []⟩ 0 := by
 have no : ∀ {P : Prop} {i : Nat}, i < (⟨[], 0, [], []⟩ : HM).n -> P := fun q => absurd q (Nat.not_lt_zero _); refine ⟨Ll, (fun _ q => by cases q), Nat.le_refl _, ⟨⟨⟨Nat.le_refl _, fun _ q => no q, fun _ q => no q, fun _ q => no q, fun _ q => no q, fun _ q => no q⟩, fun _ _ q => no q, J7, (fun _ q => by cases q), fun _ _ q => no q, fun _ q => no q, fun _ q => no q⟩, fun _ _ q => no q⟩, ⟨(fun _ q => by cases q), fun _ ⟨_, q, _⟩ => no q⟩, Nat.le_refl _, Nat.le_refl _, Nat.le_refl _, Nat.le_refl _⟩
theorem yz.add {S : List Row} {h : HM} {m : Nat} (G : yz S h m) {k : ByteArray} {x : Row} {any : Dv} (hc : jt any (.s k)) (he : eight (row any 0) = x) : yz (ew (.t S) k x) (fu h (.s k) any) (m + 1) := by
 obtain ⟨v, hm, w⟩ := Nx G.v hc; have hb : bad x = false := by rw [<- he]; exact hc.b
 have hk : kl x = k.toList := by
  unfold kl kS; rw [hb]; rw [<- he]; exact hc.k
 have hx : eight x = x := by rw [<- he]; rfl
 have hl := @Dw (.t S) k x; simp only [Tx] at hl; have := G.l; have := G.n; have := G.b; have := G.i; have := G.a; have := w.n; have := w.b; have := w.i; have := w.a; refine ⟨Iq G.g hk hb hx, ?_, by omega, v, O3 G.g G.r he hm, by omega, by omega, by omega, by omega⟩
 intro y hy; rcases (mq G.g.i).1 hy with rfl | hy
 ·rw [<- he]; exact hc.o
 ·exact G.o y hy.1
theorem NI {h : HM} {m : Nat} : (dS h m).B = h.B /\ (dS h m).n = m /\ (dS h m).I.length <= h.I.length /\ (dS h m).A = h.A := ⟨rfl, rfl, xK, rfl⟩
theorem OR {h : HM} {i : Nat} (v : fY h) (hi : i < h.n) : (je h i).n = h.n - 1 /\ (je h i).B.length = h.B.length /\ (je h i).I.length <= h.I.length /\ (je h i).A.length = h.A.length := by
 have hn := v.c.dK.n; unfold je; split
 ·exact ⟨rfl, rfl, xK, rfl⟩
 ·rename_i e; have hm : h.n - 1 < h.n := by omega
  have c := fj v.c hi hm; have hb : h.n - 1 < h.B.length := by omega
  have hpd : cz lh (bo h i (h.n - 1)).ob (h.n - 1) i := by
   rw [jk (by omega) hb]
   refine dB j6 ?_ (by omega)
   rw [show h.n - 1 + 1 = h.n by omega]
   exact v.hp
  have hsn : (bo h i (h.n - 1)).n = h.n := rfl; obtain ⟨f1, f2, f3, f4, f5, f6, f7⟩ := Fs c (show i < h.n - 1 by omega) (by rw [hsn]; omega) hpd
  have hbl : (bo h i (h.n - 1)).B.length = h.B.length := fq; have hal : (bo h i (h.n - 1)).A.length = h.A.length := jX; refine ⟨rfl, f6.trans hbl, ?_, f5.trans hal⟩; refine Nat.le_trans (NI (h := gC _ _ _)).2.2.1 ?_; rw [f4]; exact Nat.le_refl _
theorem PM {h : HM} (v : fY h) (h0 : 0 < h.n) : (ux h).n = h.n - 1 /\ (ux h).B.length = h.B.length /\ (ux h).I.length <= h.I.length /\ (ux h).A.length = h.A.length := by
 have hl := FK (B := .t (bo h 0 (h.n - 1)).B) (I := .t (bo h 0 (h.n - 1)).I) (A := .t (bo h 0 (h.n - 1)).A) (m := h.n - 1) (j := 0) (zK (bo h 0 (h.n - 1)) (h.n - 1) 0); exact ⟨rfl, hl.1.trans fq, xK, hl.2.trans jX⟩
theorem yz.del {S : List Row} {h h' : HM} {m : Nat} (G : yz S h m) {k : ByteArray} (v : fY h') (hm : ∀ x, h'.mem x ↔ h.mem x /\ (kO x).toList ≠ k.toList) (w : h'.n = h.n - 1 /\ h'.B.length = h.B.length /\ h'.I.length <= h.I.length /\ h'.A.length = h.A.length) : yz (cO (.t S) k) h' m := by
 have hl := @CI (.t S) k; simp only [Tx] at hl; obtain ⟨w1, w2, w3, w4⟩ := w; have := G.l; have := G.n; have := G.b; have := G.i; have := G.a; exact ⟨AU G.g, fun y hy => G.o y ((jl G.g.i).1 hy).1, by omega, v, N7 G.g G.r hm, by omega, by omega, by omega, by omega⟩
theorem mO {p : Row} (hb : (cc p 7).B = false) (ho : jg (dG p)) : jt (dM p) (hZ p) := ⟨hb, ho, rfl⟩
theorem ad5 {h : HM} (c : eJ h) {k : Dv} (hh : 0 <= aQ .s k h.I) : ∃ i, i < h.n /\ fX h k = i /\ (h.key i).S.toList = k.S.toList := by
 obtain ⟨i, hi, hk, e⟩ := xk c hh; refine ⟨i, hi, ?_, hk⟩; unfold fX; rw [e]; exact congrArg Dv.I (c.p i hi)
theorem Hl {S : List Row} {h : HM} {m : Nat} {l : Dv} (G : yz S h m) (hl : dF l.T) : ∀ r, r <= l.T.length -> (∀ j, j < r -> qb l j) -> yz (Rw S l r) (mo (.t (l.T.map lC)) h r) (m + r)
 | 0, _, _ => G
 | r + 1, hr, hq => by
   have g := Hl G hl r (by omega) fun j hj => hq j (by omega)
   have e := FO (l := l) (n := r) (by omega)
   have e1 : cc (row (.t (l.T.map lC)) r) 0 = .t [nine (row l r)] := by rw [iB (by omega)]; rfl
   have e2 : de (.t (l.T.map lC)) r = .s (jo (cc (row l r) 0).S (cc (row l r) 1).S) := by
    unfold de; rw [e]; rfl
   show yz (ew _ _ _) (fu _ (de _ r) (cc _ 0)) _; rw [e2, e1]; exact g.add ⟨hq r (by omega), cF hl (by omega), rfl⟩ rfl
def MW (q : NU × Row) (m : Nat) : Prop := yz q.1.S q.1.h m
theorem ir {c : Prop} [d : Decidable c] {t e : NU × Row} {m : Nat} (h1 : c -> MW t m) (h2 : ¬ c -> MW e m) : MW (if c then t else e) m := by
 cases d with
 | isTrue h => exact h1 h
 | isFalse h => exact h2 h
theorem QT {p : Row} {s : NU} {m : Nat} (G : yz s.S s.h m) (ho : jg (dG p)) (hl : dF (cc p 9).T) (h20 : (cc p 9).T.length <= 20) : yz (bN p s).1.S (bN p s).1.h (m + 20) := by
 have one : m + 1 <= m + 20 := by omega
 show MW (bN p s) _; have same : ∀ r, MW (s, r) (m + 20) := fun _ => G.up (show m <= m + 20 by omega)
 unfold bN; refine ir (fun _ => same _) fun hb => ?_
 have hbad : ∀ q : (cc p 0).I = 1 \/ (cc p 0).I = 3 \/ (cc p 0).I = 4 \/ (cc p 0).I = 8, (cc p 7).B = false := fun q => by
  cases q2 : (cc p 7).B with
  | true => exact absurd ⟨q, q2⟩ hb
  | false => rfl
 refine ir (fun h1 => ir (fun _ => same _) fun _ => (G.add (mO (hbad (.inl h1)) ho) rfl).up one) fun _ => ?_; refine ir (fun h3 => ir (fun _ => same _) fun _ => ir (fun _ => same _) fun hn => ?_) fun _ => ?_
 ·have hn2 : ¬ 0 <= aQ .s (Dv.s (bd p)) s.h.I := fun q => hn ((eX G.g G.r G.v).1 q); have := (G.add (mO (hbad (.inr (.inl h3))) ho) rfl).up one; unfold fu at this; rw [if_neg hn2] at this; exact this
 refine ir (fun _ => ir (fun _ => same _) fun _ => ?_) fun _ => ?_
 ·have hg : gN (qb (cc p 9)) (cc p 9).T.length <= (cc p 9).T.length := j8; refine (Hl G hl _ hg fun j hj => ?_).up (by omega)
  have q := bI (show j < stop (fun j => !dec (qb (cc p 9) j)) (cc p 9).T.length from hj); rw [Bool.not_eq_false'] at q; exact al.1 q
 refine ir (fun _ => ir (fun hq => ?_) fun _ => same _) fun _ => ?_
 ·obtain ⟨i, hi, e, hk⟩ := ad5 G.v.c ((eX G.g G.r G.v).2 hq); have e : fX s.h (hZ p) = i := e; show yz _ (je s.h (fX s.h (hZ p)).toNat) _; rw [e, Int.toNat_natCast]; obtain ⟨a, b⟩ := Vp G.v hi; refine (G.del a (fun x => ?_) (OR G.v hi)).up (by omega)
  rw [b, hk]; exact Iff.rfl
 refine ir (fun _ => ir (fun _ => same _) fun hS => ?_) fun _ => ?_
 ·have h0 : 0 < s.h.n := by
    rcases Nat.eq_zero_or_pos s.h.n with q | q
    ·exact absurd ((lK G.r).2 q) hS
    ·exact q
  obtain ⟨a, b, c⟩ := L7 G.v h0; obtain ⟨e, hS2⟩ := yg G.g G.r G.v h0 c; have hx : row (.t s.S) (bL (.t s.S) s.S.length) ∈ s.S := ef (d := .t s.S) (jh _ hS2)
  have hk : (kS (row (.t s.S) (bL (.t s.S) s.S.length))).toList = (s.h.key 0).S.toList := by
   refine (ql G.g hx).trans ?_; rw [<- e]; exact G.v.c.k 0 h0
  refine (G.del a (fun x => ?_) (PM G.v h0)).up (by omega)
  rw [b, hk]
 refine ir (fun _ => same _) fun _ => ?_; refine ir (fun _ => same _) fun _ => ?_; refine ir (fun _ => ir (fun _ => same _) fun _ => same _) fun _ => ?_; refine ir (fun _ => ir (fun _ => same _) fun _ => same _) fun _ => ?_; exact ir (fun _ => G.up (show m <= m + 20 by omega)) fun _ => same _
theorem lP {ops : Dv} (hf : tD ops) : ∀ n, n <= ops.T.length -> yz (gU ops n).S (gU ops n).h (20 * n)
 | 0, _ => yz.nil
 | n + 1, hn => by
   obtain ⟨a, b, c⟩ := hf.1 n (by omega)
   exact QT (lP hf n (by omega)) a b c
section
variable {p : Row} {s : NU}
theorem P3 (h : (cc p 0).I = 1 \/ (cc p 0).I = 3 \/ (cc p 0).I = 4 \/ (cc p 0).I = 8) (hb : (cc p 7).B = true) : bN p s = (s, aY 1 false [] []) := by
 unfold bN; rw [if_pos ⟨h, hb⟩]
theorem Rn {p : Row} (hb : (cc p 7).B = false) : ¬ (((cc p 0).I = 1 \/ (cc p 0).I = 3 \/ (cc p 0).I = 4 \/ (cc p 0).I = 8) /\ (cc p 7).B = true) := fun q => by have := q.2; rw [hb] at this; cases this
theorem Jm (h : (cc p 0).I = 1) (hb : (cc p 7).B = false) : bN p s = (if s.c = true then (s, aY 5 false [] []) else (⟨ew (.t s.S) (bd p) (dG p), s.c, fu s.h (hZ p) (dM p)⟩, aY 0 false [] [])) := by
 unfold bN; rw [if_neg (Rn hb), if_pos h]
theorem Uz (h : (cc p 0).I = 3) (hb : (cc p 7).B = false) : bN p s = (if s.c = true then (s, aY 5 false [] []) else if gZ (.t s.S) (bd p) = true then (s, aY 0 false [] []) else (⟨ew (.t s.S) (bd p) (dG p), s.c, jN s.h (hZ p) (dM p)⟩, aY 0 false [] [])) := by
 unfold bN; rw [if_neg (Rn hb), if_neg (by omega), if_pos h]
theorem Um (h : (cc p 0).I = 2) : bN p s = (if s.c = true then (s, aY 5 false [] []) else (⟨Rw s.S (cc p 9) (gN (qb (cc p 9)) (cc p 9).T.length), s.c, mo (.t ((cc p 9).T.map lC)) s.h (gN (qb (cc p 9)) (cc p 9).T.length)⟩, aY (if dec (eg (qb (cc p 9)) (cc p 9).T.length) = true then 0 else 1) false [] [])) := by
 unfold bN; rw [if_neg (by omega), if_neg (by omega), if_neg (by omega), if_pos h]
theorem RJ (h : (cc p 0).I = 4) (hb : (cc p 7).B = false) : bN p s = (if gZ (.t s.S) (bd p) = true then (⟨cO (.t s.S) (bd p), s.c, je s.h (fX s.h (hZ p)).toNat⟩, aY 0 false [] []) else (s, aY 14 false [] [])) := by
 unfold bN; rw [if_neg (Rn hb), if_neg (by omega), if_neg (by omega), if_neg (by omega), if_pos h]
theorem Qj (h : (cc p 0).I = 5) : bN p s = (if s.S = [] then (s, aY (if s.c = true then 5 else 99) false [] [])
    else (⟨cO (.t s.S) (kS (row (.t s.S) (bL (.t s.S) s.S.length))), s.c, ux s.h⟩, aY 0 false [row (.t s.S) (bL (.t s.S) s.S.length)] [])) := by
 unfold bN; rw [if_neg (by omega), if_neg (by omega), if_neg (by omega), if_neg (by omega), if_neg (by omega), if_pos h]
theorem afX (h : (cc p 0).I = 6) : bN p s = (s, aY 0 false s.S []) := by
 unfold bN; rw [if_neg (by omega), if_neg (by omega), if_neg (by omega), if_neg (by omega), if_neg (by omega), if_neg (by omega), if_pos h]
theorem agH (h : (cc p 0).I = 7) : bN p s = (s, aY 0 false [] (s.S.map bP)) := by
 unfold bN; rw [if_neg (by omega), if_neg (by omega), if_neg (by omega), if_neg (by omega), if_neg (by omega), if_neg (by omega), if_neg (by omega), if_pos h]
theorem aeh (h : (cc p 0).I = 8) (hb : (cc p 7).B = false) : bN p s = (if gZ (.t s.S) (bd p) = true then (s, aY 0 true [row (.t s.S) (iL (.t s.S) (bd p))] []) else (s, aY 0 false [] [])) := by
 unfold bN; rw [if_neg (Rn hb), if_neg (by omega), if_neg (by omega), if_neg (by omega), if_neg (by omega), if_neg (by omega), if_neg (by omega), if_neg (by omega), if_pos h]
theorem SQ (h : (cc p 0).I = 10) : bN p s = (if gZ (.t s.S) (cc p 10).S = true then (s, aY 0 true [row (.t s.S) (iL (.t s.S) (cc p 10).S)] []) else (s, aY 0 false [] [])) := by
 unfold bN; rw [if_neg (by omega), if_neg (by omega), if_neg (by omega), if_neg (by omega), if_neg (by omega), if_neg (by omega), if_neg (by omega), if_neg (by omega), if_neg (by omega), if_pos h]
theorem agV (h : (cc p 0).I = 9) : bN p s = (⟨s.S, true, s.h⟩, aY 0 false [] []) := by
 unfold bN; rw [if_neg (by omega), if_neg (by omega), if_neg (by omega), if_neg (by omega), if_neg (by omega), if_neg (by omega), if_neg (by omega), if_neg (by omega), if_neg (by omega), if_neg (by omega), if_pos h]
theorem afA (h : (cc p 0).I < 1 \/ 10 < (cc p 0).I) : bN p s = (s, aY 0 false [] []) := by
 unfold bN; rw [if_neg (by omega), if_neg (by omega), if_neg (by omega), if_neg (by omega), if_neg (by omega), if_neg (by omega), if_neg (by omega), if_neg (by omega), if_neg (by omega), if_neg (by omega), if_neg (by omega)]
end
theorem wU {ops : Dv} {n : Nat} (h : n < ops.T.length) : row (.t (kY ops)) n = (bN (row ops n) (gU ops n)).2 := by
 unfold row kY; show ((List.map _ _)[n]?).getD [] = _; rw [List.getElem?_map, List.getElem?_range h]; rfl
theorem kC {ops : Dv} : (kY ops).length = ops.T.length := by
 unfold kY; rw [List.length_map, List.length_range]
theorem CJ {l : List Row} {f : Row -> List UInt8} (h : l.Pairwise fun a b => f a ≠ f b) : (l.map f).Nodup := List.pairwise_map.2 h
section
variable {S : List Row} {h : HM}
theorem OD (g : Good S) (r : Rel S h) (v : fY h) (b : List UInt8) : b ∈ h.I.map ky ↔ b ∈ S.map kl := by
 constructor
 ·intro q; obtain ⟨x, hx, e⟩ := List.mem_map.1 q; obtain ⟨y, hy, e2⟩ := (A5 g r v (k := .s ⟨b.toArray⟩)).1 (ee.2 ⟨x, hx, by rw [e]; exact (toList_data ⟨b.toArray⟩).symm⟩)
  exact List.mem_map.2 ⟨y, hy, e2.trans (toList_data _)⟩
 ·intro q; obtain ⟨y, hy, e⟩ := List.mem_map.1 q; obtain ⟨x, hx, e2⟩ := ee.1 ((A5 g r v (k := .s ⟨b.toArray⟩)).2 ⟨y, hy, by rw [e]; exact (toList_data ⟨b.toArray⟩).symm⟩)
  exact List.mem_map.2 ⟨x, hx, e2.trans (toList_data _)⟩
theorem CQ (g : Good S) (r : Rel S h) (v : fY h) : (h.I.map ky).Perm (S.map kl) :=
 (List.perm_ext_iff_of_nodup (CJ v.c.u) (CJ (g.i.imp fun {a b} q => lM q))).2 (OD g r v)
theorem ep (g : Good S) (r : Rel S h) (v : fY h) : eL (h.I.map di) = S.map bP := by
 rw [<- yZ g.i]; unfold eL
 have e1 : (h.I.map di).map jG = h.I.map ky := by
  rw [List.map_map]; exact List.map_congr_left fun x _ => by cases x <;> exact (toList_data _).symm
 have e2 : (S.map bP).map jG = S.map kl := by
  rw [List.map_map]; exact List.map_congr_left fun r _ => CM _
 rw [e1, e2, mergeSort_of_perm (CQ g r v)]
theorem jZ (g : Good S) (r : Rel S h) (v : fY h) : h.I.length = S.length := by
 have := (CQ g r v).length_eq; rwa [List.length_map, List.length_map] at this
theorem get_at (g : Good S) (r : Rel S h) (v : fY h) {k : ByteArray} (q : gZ (.t S) k = true) : ∃ i, i < h.n /\ fX h (.s k) = i /\ (h.key i).S.toList = k.toList /\ h.slot i = (dN (.t h.I) (.s k)).toNat /\ 0 <= dN (.t h.I) (.s k) /\ (dN (.t h.I) (.s k)).toNat < h.A.length /\
    eight (row (mg h.A (dN (.t h.I) (.s k)).toNat) 0) = row (.t S) (iL (.t S) k) := by
 obtain ⟨i, hi, hk, e⟩ := xk v.c ((eX g r v).2 q); have hs : h.slot i = (dN (.t h.I) (.s k)).toNat := by rw [e]; rfl
 refine ⟨i, hi, ?_, hk, hs, by rw [e]; exact v.c.dK.i i hi, by rw [e]; exact v.c.dK.l i hi, ?_⟩
 ·unfold fX; rw [e]; exact congrArg Dv.I (v.c.p i hi)
 ·have hx := r.b (h.ob i) ⟨i, hi, rfl⟩; have e2 : row (mg h.A (dN (.t h.I) (.s k)).toNat) 0 = h.ob i := by rw [<- hs]; rfl
  rw [e2]; obtain ⟨hl, e3⟩ := mu q; refine Hv g.i hl hx ?_; rw [ic (l := .t S) hl]; refine Eq.trans ?_ e3.symm; rw [ql g hx]; exact (v.c.k i hi).trans hk
theorem Km (g : Good S) {x : Row} (hx : x ∈ S) {k : ByteArray} (e : kl x = k.toList) : gZ (.t S) k = true /\ row (.t S) (iL (.t S) k) = x := by
 have hq : gZ (.t S) k = true := by
  by_cases hq : gZ (.t S) k = true
  ·exact hq
  ·exfalso; rcases rN (k := k) x hx with q | q | q
   ·exact lM (nB q) e
   ·have hx2 := hx; rw [<- List.take_append_drop (iL (.t S) k) S] at hx2; rcases List.mem_append.1 hx2 with q2 | q2
    ·exact lM (nB q2) e
    ·have hu : J3 S k = iL (.t S) k := by unfold J3; rw [if_neg hq]
     rw [<- hu] at q2; exact lM (kc g.i q2) e.symm
   ·exact lM (kc g.i q) e.symm
 refine ⟨hq, ?_⟩; obtain ⟨hl, e3⟩ := mu hq; refine (Hv g.i hl hx ?_).symm; rw [ic (l := .t S) hl]; exact e.trans e3.symm
theorem P2 (g : Good S) (r : Rel S h) (v : fY h) : Wr (.t (S.map bP)) (.t h.I) := fun k hk => by
 obtain ⟨x, hx, rfl⟩ := List.mem_map.1 hk; obtain ⟨q, _⟩ := Km g hx (k := kS x) rfl; obtain ⟨_, _, _, _, _, a, _⟩ := get_at g r v q; exact ⟨(eX g r v).2 q, a⟩
theorem JO (g : Good S) (r : Rel S h) (v : fY h) : (RX (.t (S.map bP)) (.t h.I) (.t h.A)).map nG = S := by
 unfold RX; show ((S.map bP).map _).map _ = _; rw [List.map_map, List.map_map]; refine Eq.trans (List.map_congr_left fun x hx => ?_) (List.map_id S); obtain ⟨q, e⟩ := Km g hx (k := kS x) rfl; obtain ⟨_, _, _, _, _, _, _, b⟩ := get_at g r v q; exact b.trans e
end
def Bv : Nat := 57
def Bi : Nat := 54
def EI : Nat := 56
def BB : Nat := 51
def Ae : Nat := 10
def aaA : Nat := 114
def UX (closed B len I A : E) (it : Option Nat := none) : aR := [(500177, .ar SJ Og A), (8, .row rG 1 (aB B) (b8 gF B 0) []), (3, itH I it), (2, .cells tHD [.map 3, .sl 8 1 (.il 0) len, .fn (.func ua) [] [], .fn (.func ur) [] []]), (1, .cells aaA [.ei 115 .mw, .ptr 2 (.c 0), .bool closed])]
def Gb : BT := ⟨9, 3, 4, .str, 7749⟩
def Jh : ak where
 f := Gm; key := 3; N := 21; r := 2202; base := 182000
 js := [4] ++ ke 10 18
 hd := fun _ => ⟨[(0, .map 3), (9, .ptr 4 (.c 0)), (3, .sl 5 1 (.il 0) (aB (.v 2202)))], [(500177, .ar SJ Og (.v 7741)), (5, .row rG 1 (aB (.v 2202)) (b8 gF (.v 2202) 0) []), (4, .oa 3 .str (.v 2202)), (3, itH (.v 7740) (some 4))], 9, [lY (.v 7740), (.uf 201 (pk [.v 7740]), true)]⟩
 aU := fun _ => [lY (.v 7740), (.uf 201 (pk [.v 7740]), true)]
 app := fun _ => true
 mS := fun m => Nat.beq m 0
 dD := fun _ => .ret 0
 ll := fun m => Nat.beq m 0
 mf := fun _ => []
 hx := fun _ => ⟨[(0, .map 3), (9, .top), (3, .sl 5 1 (.il 0) (aB (.v 7740)))], [(500177, .ar SJ Og (.v 7741)), (5, .rV rG gF (.uf 200 (pk [.v 7740]))), (3, itH (.v 7740) none)], 9, []⟩
 sQ := fun _ _ => .ret 0
 nU := fun _ => .exit 0
 bp := [(.bl true, 0)]
 fixed := [3]
 lt := .bl true
 X := dg.none
 fuel := 300; np := 60
 params := [7740, 7741]
def hlF : aa := [lY (.v 7750), (.uf 301 (pk [.v 7750, .v 7751]), true)]
def hlY : ak where
 f := Bv; key := 5; N := 52; r := 2203; base := 183000
 js := [5] ++ ke 32 51
 hd := fun _ => ⟨[(0, .ptr 1 (.c 0)), (29, .bQ gF (.v 7750)), (30, iS (aB (.v 7750))), (3, .sl 14 1 (.il 0) (.v 2203)), (31, iS (.v 2203))],
  (14, .row LD 1 (.v 2203) (b8 aK (.uf 300 (pk [.v 7750, .v 7751, .v 7752])) 0) []) :: UX (.v 7753) (.v 7754) (.v 7755) (.v 7751) (.v 7752), 20,
  cP (.il 0) (.v 2203) :: cP (.v 2203) (aB (.v 7750)) :: hlF⟩
 aU := fun _ => hlF
 app := fun _ => true
 mS := fun m => Nat.beq m 0
 dD := fun _ => .ret 0
 ll := fun m => Nat.beq m 0
 mf := fun _ => []
 hx := fun _ => ⟨[(0, .ptr 1 (.c 0)), (29, .top), (30, .top), (3, .bQ aK (.uf 300 (pk [.v 7750, .v 7751, .v 7752]))), (31, .top)], UX (.v 7753) (.v 7754) (.v 7755) (.v 7751) (.v 7752), 20, []⟩
 sQ := fun _ _ => .ret 0
 nU := fun _ => .exit 0
 bp := [(.bl true, 0)]
 fixed := [1, 2, 3, 8]
 lt := .o2 .lt (.v 2203) (aB (.v 7750))
 X := dg.none.xe
 fuel := 300; np := 60
 params := [7750, 7751, 7752, 7753, 7754, 7755]
 QL := [(82, 1)]
 xR := [(LD, aK), (rG, gF)]
def hkY : ak where
 f := Bi; key := 5; N := 41; r := 2204; base := 184000
 js := [5] ++ ke 32 40
 hd := fun _ => ⟨[(29, .bQ gF (.v 7757)), (30, iS (aB (.v 7757))), (3, .sl 8 1 (.il 0) (.v 2204)), (31, iS (.v 2204))],
  [(8, .row rG 1 (.v 2204) (b8 gF (.v 7757) 0) [])], 9, cP (.il 0) (.v 2204) :: cP (.v 2204) (aB (.v 7757)) :: [lY (.v 7757)]⟩
 aU := fun _ => [lY (.v 7757)]
 app := fun _ => true
 mS := fun m => Nat.beq m 0
 dD := fun _ => .ret 0
 ll := fun m => Nat.beq m 0
 mf := fun _ => []
 hx := fun _ => ⟨[(29, .top), (30, .top), (3, .bQ gF (.v 7757)), (31, .top)], [], 9, []⟩
 sQ := fun _ _ => .ret 0
 nU := fun _ => .exit 0
 bp := [(.bl true, 0)]
 fixed := []
 lt := .o2 .lt (.v 2204) (aB (.v 7757))
 X := dg.none
 fuel := 300; np := 60
 params := [7757]
 QL := [(82, 1)]
 xR := [(rG, gF)]
def hwF : aa := [cP (.il 0) (.v 7760), (.o2 .or (.o2 .lt (.il 0) (.v 7760)) (.v 7761), true)]
def ZO : ak where
 f := EI; key := 3; N := 40; r := 2205; base := 185000
 js := ke 12 30
 hd := fun _ => ⟨[(0, .ptr 1 (.c 0)), (2, .dR), (3, .dR)], UX (.v 7761) (.v 7762) (.v 7760) (.v 7763) (.v 7764), 20, cP (.il 0) (.v 2205) :: cP (.v 2205) (.il 0) :: hwF⟩
 aU := fun _ => hwF
 app := fun _ => true
 mS := fun m => Nat.beq m 0
 dD := fun _ => .ret 0
 ll := fun m => Nat.beq m 0
 mf := fun _ => []
 hx := fun n => ⟨[(0, .ptr 1 (.c 0)), (2, .dR), (3, match n with | 1 => .ei EU (.str (.sl [104, 101, 97, 112, 32, 105, 115, 32, 99, 108, 111, 115, 101, 100])) | _ => .dR)], UX (.v 7761) (.v 7762) (.v 7760) (.v 7763) (.v 7764), 20, []⟩
 sQ := fun ex _ => match ex with | .ret => .ret 1 | _ => .ret 0
 nU := fun n => match n with | 1 => .ret | _ => .exit 0
 bp := [(.o2 .aN (.v 7760) (.il 0), 1), (.bl true, 0)]
 fixed := [1, 2, 3, 8]
 lt := .o2 .lt (.v 2205) (.il 0)
 X := dg.none
 fuel := 300; np := 60
 params := [7760, 7761, 7762, 7763, 7764]
 QL := [(76, 1)]
def Q5 : SV := .ei EU (.str (.sl M1))
def hbP : List E := [.v 7771, .v 7772, .v 7773, .v 7774, .v 7770]
def Sz (r : E) : E := pk (hbP ++ [r])
def MG : aa := [(.uf 213 (pk [.v 7770]), true), lY (.v 7770), (.uf 308 (pk [.v 7771, .v 7772, .v 7773, .v 7774]), true), cP (aB (.v 7770)) (.il 20), cP (.il 0) (.v 7772), cP (.v 7772) (.il 500000), cP (aB (.v 7771)) (.il 500000), cP (aB (.v 7774)) (.il 500000), cP (aB (.v 7773)) (.il 500000)]
def hbX : gX := ⟨[(ua, sd.aS)], [(fUp, 0, YV.cW), (Gs, 2, YY.cW)]⟩
def hbY : ak where
 f := BB; key := 6; N := 99; r := 2206; base := 186000
 js := [6, 7, 8, 9, 10] ++ ke 26 99
 hd := fun _ => ⟨[(0, .ptr 1 (.c 0)), (4, .dR), (23, .bQ aK (.v 7770)), (24, iS (aB (.v 7770))), (25, iS (.v 2206))],
  UX (.v 7775) (.uf 302 (Sz (.v 2206))) (.uf 303 (Sz (.v 2206))) (.uf 304 (Sz (.v 2206))) (.uf 305 (Sz (.v 2206))), 20,
  cP (.il 0) (.v 2206) :: cP (.v 2206) (.uf 212 (pk [.v 7770])) :: MG⟩
 aU := fun _ => MG
 app := fun _ => true
 mS := fun m => Nat.beq m 0
 dD := fun _ => .ret 0
 ll := fun m => Nat.beq m 0
 mf := fun _ => []
 hx := fun n => ⟨[(0, .ptr 1 (.c 0)), (4, match n with | 1 => .ei 149 (.agg [.ei Q0 (.dH oK (.o2 (.cell 0) (.v 7770) (.uf 212 (pk [.v 7770]))) (.il 0) 0), Q5]) | _ => .dR), (23, .top), (24, .top), (25, .top)],
  UX (.v 7775) (.uf 302 (Sz (.uf 212 (pk [.v 7770])))) (.uf 303 (Sz (.uf 212 (pk [.v 7770])))) (.uf 304 (Sz (.uf 212 (pk [.v 7770])))) (.uf 305 (Sz (.uf 212 (pk [.v 7770])))), 20, []⟩
 sQ := fun ex _ => match ex with | .ret => .ret 1 | _ => .ret 0
 nU := fun n => match n with | 1 => .ret | _ => .exit 0
 bp := [(.uf 211 (pk [.v 7770]), 1), (.bl true, 0)]
 fixed := [1, 2, 3]
 lt := .o2 .lt (.v 2206) (.uf 212 (pk [.v 7770]))
 X := hbX.x.xe
 fuel := 1500; np := 260
 params := [7770, 7771, 7772, 7773, 7774, 7775]
 QL := [(76, 1)]
 xR := [(LD, aK), (rG, gF)]
 PF := [(7771, 0, 0, [1, 1]), (7772, 0, 0, [1, 1001]), (7773, 0, 0, [1, 0]), (7774, 0, 500177, [])]
def O0 : aJ := .cons (.int .i64) (.cons .str (.cons .str (.cons .str (.cons .str (.cons (.sl gI) (.cons .str (.cons .bool (.cons .bool (.cons (.sl dm) (.cons .str .nil))))))))))
def abk : Nat := 33
def hmA : E := pk [.v 7780, .v 2207]
def R4 : E := .uf 315 (pk [.v 7780])
def D8 : aa := [(.uf 316 (pk [.v 7780]), true), cP (aB (.v 7780)) (.il 2000)]
def hmX : gX := ⟨[(la, l9.aS), (mY, vq.aS), (ua, sd.aS), (im, ja.aS), (kV, mQ.aS), (ML, Hw.aS), (CT, zk 106)],
 [(Gm, 3, Jh.cW), (Bv, 5, hlY.cW), (Bi, 5, hkY.cW), (EI, 3, ZO.cW), (BB, 6, hbY.cW), (fUp, 0, YV.cW), (Gs, 2, YY.cW)]⟩
def Gz : ak where
 f := Ae; key := 4; N := 23; r := 2207; base := 187000
 js := ke 7 23
 hd := fun m => ⟨[(0, .bQ O0 (.v 7780)), (3, .ptr 1 (.c 0)), (4, match m with | 0 => .bO | _ => .sl 21 6 (.il 0) (.v 2207)), (5, iS (.v 2207))],
  (match m with | 0 => [] | _ => [(21, .row kX 6 (.v 2207) (b8 J1 R4 0) [])]) ++ UX (.uf 314 hmA) (.uf 310 hmA) (.uf 311 hmA) (.uf 312 hmA) (.uf 313 hmA), 30,
  (match m with | 0 => [(.o2 .aN (.v 2207) (.il 0), true)] | _ => [r9 (.il 0) (.v 2207)]) ++ cP (.il 0) (.v 2207) :: cP (.v 2207) (aB (.v 7780)) :: D8⟩
 aU := fun _ => D8
 app := fun _ => true
 mS := fun m => Nat.beq m 0
 dD := fun sl => match nth sl 4 with | some .bO => .ret 0 | some (.sl ..) => .ret 1 | _ => .fail
 ll := fun m => Nat.beq m 1
 mf := fun m => match m with | 0 => [(.o2 .aN (.v 2207) (.il 0), true)] | _ => [r9 (.il 0) (.v 2207)]
 hx := fun _ => ⟨[(0, .top), (3, .top), (4, .bQ J1 R4), (5, .top)], [(500177, .ar SJ Og (.uf 317 (pk [.v 7780])))], 30, []⟩
 sQ := fun _ _ => .ret 0
 nU := fun _ => .exit 0
 bp := [(.bl true, 0)]
 fixed := []
 lt := .o2 .lt (.v 2207) (aB (.v 7780))
 X := hmX.x.xe
 fuel := 3000; np := 400
 params := [7780]
 xR := [(abk, O0), (kX, J1), (qf, dm), (rG, gF), (aay, Np), (LD, aK)]
def Fx : Nat := 63
def MR : Nat := 30
def Al : Nat := 11
def leY : ak where
 f := Fx; key := 3; N := 24; r := 2210; base := 190000
 js := [4, 5] ++ ke 9 23
 hd := fun _ => ⟨[(0, .bQ dm (.v 7790)), (3, iS (.uf 319 (pk [.v 7790, .v 2210]))), (6, .bQ dm (.v 7790)), (7, iS (aB (.v 7790))), (8, iS (.v 2210))], [], 9, cP (.il 0) (.v 2210) :: cP (.v 2210) (aB (.v 7790)) :: [lY (.v 7790)]⟩
 aU := fun _ => [lY (.v 7790)]
 app := fun _ => true
 mS := fun m => Nat.beq m 0
 dD := fun _ => .ret 0
 ll := fun m => Nat.beq m 0
 mf := fun _ => []
 hx := fun _ => ⟨[(0, .top), (3, iS (.uf 318 (pk [.v 7790]))), (6, .top), (7, .top), (8, .top)], [], 9, []⟩
 sQ := fun _ _ => .ret 0
 nU := fun _ => .exit 0
 bp := [(.bl true, 0)]
 fixed := []
 lt := .o2 .lt (.v 2210) (aB (.v 7790))
 X := dg.none
 fuel := 300; np := 60
 params := [7790]
def hdA (r : E) : E := .uf 321 (pk [.v 7791, .v 7792, r])
def hdF : aa := [(vj (.v 7791), true), (vj (.v 7792), true), cP (aB (.v 7792)) (.il 20), cP (aB (.v 7791)) (.il 500000)]
def hdY : ak where
 f := MR; key := 24; N := 190; r := 2211; base := 191000
 js := [15, 16, 17] ++ ke 81 98
 hd := fun _ => ⟨[(0, .bQ dm (hdA (.v 2211))), (1, .bool (.v 7793)), (6, .bO), (7, .bool (.bl false)), (8, .ptr 1 (.c 0)), (78, .bQ dm (.v 7792)), (79, iS (aB (.v 7792))), (80, iS (.v 2211))], [(1, .cells kX st0)], 9,
  cP (.il 0) (.v 2211) :: cP (.v 2211) (.uf 167 (pk [.v 7792])) :: hdF⟩
 aU := fun _ => hdF
 app := fun _ => true
 mS := fun m => Nat.beq m 0
 dD := fun _ => .ret 0
 ll := fun m => Nat.beq m 0
 mf := fun _ => []
 hx := fun n => match n with
  | 1 => ⟨[(0, .top), (1, .top), (6, .bQ dm (hdA (.uf 167 (pk [.v 7792])))), (7, .bool (.v 7793)), (8, .ptr 1 (.c 0)), (78, .top), (79, .top), (80, .top)], [(1, .cells kX st1)], 9, []⟩
  | _ => ⟨[(0, .bQ dm (hdA (.uf 167 (pk [.v 7792])))), (1, .bool (.v 7793)), (6, .bO), (7, .bool (.bl false)), (8, .ptr 1 (.c 0)), (78, .top), (79, .top), (80, .top)], [(1, .cells kX st0)], 9, []⟩
 sQ := fun ex _ => match ex with | .ret => .ret 1 | _ => .ret 0
 nU := fun n => match n with | 1 => .ret | _ => .exit 2
 bp := [(.uf 166 (pk [.v 7792]), 1), (.bl true, 0)]
 fixed := [1]
 lt := .o2 .lt (.v 2211) (.uf 167 (pk [.v 7792]))
 X := (⟨[(ig, fv.aS), (ml, gP.aS)], []⟩ : gX).x
 fuel := 400; np := 120
 params := [7791, 7792, 7793]
 xR := [(qf, dm)]
 aap := [(7791, 0)]
def hsA : E := pk [.v 7795, .v 2212]
def TP : E := .uf 315 (pk [.v 7795])
def D5 : aa := [(.uf 316 (pk [.v 7795]), true), cP (aB (.v 7795)) (.il 2000)]
def hsX : gX := ⟨[(ig, fv.aS), (iC, lv.aS), (ml, gP.aS), (mT, fS.aS), (kP, rP.aS)], [(Fx, 3, leY.cW), (MR, 24, hdY.cW)]⟩
def GH : ak where
 f := Al; key := 5; N := 29; r := 2212; base := 192000
 js := [7, 8] ++ ke 12 28
 hd := fun m => ⟨[(3, .bQ dm (.uf 320 hsA)), (4, .bool (.uf 314 hsA)), (5, match m with | 0 => .bO | _ => .sl 8 6 (.il 0) (.v 2212)), (9, .bQ O0 (.v 7795)), (10, iS (aB (.v 7795))), (11, iS (.v 2212))],
  (match m with | 0 => [] | _ => [(8, .row kX 6 (.v 2212) (b8 J1 TP 0) [])]), 9,
  (match m with | 0 => [(.o2 .aN (.v 2212) (.il 0), true)] | _ => [r9 (.il 0) (.v 2212)]) ++ cP (.il 0) (.v 2212) :: cP (.v 2212) (aB (.v 7795)) :: D5⟩
 aU := fun _ => D5
 app := fun _ => true
 mS := fun m => Nat.beq m 0
 dD := fun sl => match nth sl 5 with | some .bO => .ret 0 | some (.sl ..) => .ret 1 | _ => .fail
 ll := fun m => Nat.beq m 1
 mf := fun m => match m with | 0 => [(.o2 .aN (.v 2212) (.il 0), true)] | _ => [r9 (.il 0) (.v 2212)]
 hx := fun _ => ⟨[(3, .top), (4, .top), (5, .bQ J1 TP), (9, .top), (10, .top), (11, .top)], [], 9, []⟩
 sQ := fun _ _ => .ret 0
 nU := fun _ => .exit 0
 bp := [(.bl true, 0)]
 fixed := []
 lt := .o2 .lt (.v 2212) (aB (.v 7795))
 X := hsX.x.xe
 fuel := 1200; np := 300
 params := [7795]
 xR := [(kX, J1), (qf, dm), (rG, gF), (aay, Np)]
end Go.Proofs.YtdlppkhmmclipaaGreat.sxObj
namespace Go.Proofs.YtdlppkhmmclipaaGreat.sxObj
open Go.Sx
set_option linter.unusedVariables false
set_option maxRecDepth 100000
abbrev Tt : E := .v 7790
abbrev eA : E := .il 0
abbrev WE : E := .uf 319 (eP Tt (eP (.v 2210) eA))
abbrev ot3 : E := .o2 .slt (eC 5 Tt (.v 2210)) (eC 5 Tt WE)
abbrev ot4 : E := .o2 .lt (.v 2210) (.o1 .ab Tt)
abbrev ot5 : E := .uf 319 (eP Tt (eP (.o2 .add (.v 2210) (.il 1)) eA))
def leL : List (aa × List Ob) :=
 [(fT ot3 (fT ot4 []), oO (.o2 .lt WE (.o1 .ab Tt)) (oO (.o2 .le eA WE) (oO (.o2 .aN (.v 2210) ot5) []))),
  (fF ot3 (fT ot4 []), oO (.o2 .lt WE (.o1 .ab Tt)) (oO (.o2 .le eA WE) (oO (.o2 .aN WE ot5) []))),
  (fF ot4 [], oO (.o2 .aN WE (.uf 318 (eP Tt eA))) [])]
abbrev wN : E := .v 7792
abbrev yC : E := .v 2211
abbrev ot8 : E := eC 6 wN yC
abbrev ot9 : E := .o2 .lt yC (.o1 .ab wN)
abbrev aa3 : E := .uf 166 (eP wN eA)
abbrev Ot : E := .uf 321 (eP (.v 7791) (eP wN (eP yC eA)))
abbrev aeG : E := .uf 167 (eP wN eA)
abbrev aby : List Ob := oT Ot (.uf 321 (eP (.v 7791) (eP wN (eP aeG eA)))) []
def hdL : List (aa × List Ob) :=
 [(fT ot8 (fT ot9 []), oO aa3 (oO (.uf 110 (eP (eC 0 wN yC) (eP (eC 1 wN yC) (eP (eC 4 wN yC) eA)))) aby)),
  (fF ot8 (fT ot9 []), oO (.o2 .lt yC aeG) (oO (.o2 .le (.o1 .ab Ot) (.il 1000000)) (oO (.uf 110 (eP (eC 0 wN yC) (eP (eC 1 wN yC) (eP (eC 4 wN yC) eA)))) (oO (.uf 111 (eP Ot eA)) (oO (.uf 110 (eP (eC 0 wN yC) (eP (eC 1 wN yC) (eP (eC 4 wN yC) eA)))) (oT (.uf 107 (eP Ot (eP (eC 0 wN yC) (eP (eC 1 wN yC) (eP (eC 2 wN yC) (eP (eC 3 wN yC) (eP (eC 4 wN yC) (eP (eC 5 wN yC) (eP ot8 (eP (eC 7 wN yC) eA)))))))))) (.uf 321 (eP (.v 7791) (eP wN (eP (.o2 .add yC (.il 1)) eA)))) [])))))),
  (fF ot9 [], oO (.o1 .not aa3) aby)]
abbrev gx : E := .v 7795
abbrev gm : E := .v 2212
abbrev bK : E := eC 0 gx gm
abbrev fK : E := eP gx (eP gm eA)
abbrev cZ : E := .uf 320 fK
abbrev Yg : E := eP cZ (eP (.sl []) eA)
abbrev X1 : E := eC 7 gx gm
abbrev Re : E := .o2 .lt gm (.o1 .ab gx)
abbrev aez : aa := fT X1 (fT Re [])
abbrev aew : aa := fT (.uf 105 Yg) aez
abbrev eY : E := .o1 .ab cZ
abbrev iM : E := eP cZ eA
abbrev ny : E := eC 1 gx gm
abbrev mZ : E := eC 2 gx gm
abbrev uQ : E := eP gx (eP (.o2 .add gm (.il 1)) eA)
abbrev pX : E := .uf 320 uQ
abbrev p5 : E := .uf 315 (eP gx eA)
abbrev xg (x : E) : E := eC 0 p5 x
abbrev JU (x : E) : E := eC 2 p5 x
abbrev aai (x : E) : List Ob := oO (.o2 .seq (.sl []) (eC 4 p5 x)) (oT eA (eC 5 p5 x) [])
abbrev Mr (x : E) : List Ob := oT eA (eC 3 p5 x) (aai x)
abbrev JG (x : E) : List Ob := oO (.o2 .beq (.bl false) (eC 1 p5 x)) (oT eA (JU x) (Mr x))
abbrev aeK (x : E) : List Ob := oO (.o2 .beq (.uf 314 fK) (.uf 314 uQ)) (oO (.o2 .aN (.il 1) (xg x)) (JG x))
abbrev Ec (x : E) : List Ob := oO (.o2 .le eY (.il 1000000)) (oO (.uf 111 iM) (oO (.uf 110 (eP ny (eP mZ (eP (eC 5 gx gm) eA)))) (oT cZ pX (aeK x))))
abbrev acf : aa := fF (.o2 .aN bK (.il 1)) aew
abbrev ad3 : aa := fF (.o2 .aN bK (.il 3)) acf
abbrev aaj : aa := fF (.o2 .aN bK (.il 4)) ad3
abbrev acF : aa := fF (.o2 .aN bK (.il 8)) aaj
abbrev adk : aa := fT (.o2 .aN bK (.il 2)) acF
abbrev L5 (x : E) : List Ob := oO (.uf 111 iM) (oO (.uf 110 (eP ny (eP mZ (eP (eC 5 gx gm) eA)))) (oT cZ pX (oO (.o2 .beq (.uf 314 fK) (.uf 314 uQ)) (oO (.o2 .aN (.il 5) (xg x)) (JG x)))))
abbrev DT (x : E) : List Ob := oO (.o2 .le eY (.il 1000000)) (L5 x)
abbrev EW : E := eC 9 gx gm
abbrev uX : E := eP EW eA
abbrev ac8 : aa := fF (.uf 314 fK) adk
abbrev Q3 (x : E) : List Ob := oT cZ (.uf 321 (eP cZ (eP EW (eP eA eA)))) (oO (.o2 .le eY (.il 500000)) (oO (.o2 .le (.o1 .ab EW) (.il 20)) (oO (.uf 111 uX) (oO (.uf 111 iM) (oO (.o2 .le eY (.il 1000000)) (oO (.uf 111 iM) (oO (.uf 110 (eP ny (eP mZ (eP (eC 5 gx gm) eA)))) (oT (.uf 321 (eP cZ (eP EW (eP (.uf 167 uX) eA)))) pX (aeK x)))))))))
abbrev N4 (x : E) : List Ob := oO (.o2 .beq (.uf 314 fK) (.uf 314 uQ)) (oO (.o2 .aN eA (xg x)) (JG x))
abbrev Qf (x : E) : List Ob := oT cZ (.uf 321 (eP cZ (eP EW (eP eA eA)))) (oO (.o2 .le eY (.il 500000)) (oO (.o2 .le (.o1 .ab EW) (.il 20)) (oO (.uf 111 uX) (oO (.uf 111 iM) (oO (.o2 .le eY (.il 1000000)) (oO (.uf 111 iM) (oO (.uf 110 (eP ny (eP mZ (eP (eC 5 gx gm) eA)))) (oT (.uf 321 (eP cZ (eP EW (eP (.uf 167 uX) eA)))) pX (N4 x)))))))))
abbrev Zu : aa := fF (.o2 .aN bK (.il 2)) acF
abbrev aac : aa := fT (.o2 .aN bK (.il 5)) Zu
abbrev ZE : aa := fT (.o2 .aN eY eA) aac
abbrev Qc (x : E) : List Ob := oO (.uf 111 iM) (oO (.uf 110 (eP ny (eP mZ (eP (eC 5 gx gm) eA)))) (oT cZ pX (oO (.o2 .beq (.uf 314 fK) (.uf 314 uQ)) (oO (.o2 .aN (.il 99) (xg x)) (JG x)))))
abbrev sH : E := .uf 318 iM
abbrev Bs : E := eC 6 cZ sH
abbrev acm : aa := fF (.o2 .aN eY eA) aac
abbrev PO : E := eC 0 cZ sH
abbrev QJ : E := eC 1 cZ sH
abbrev adU (x : E) : List Ob := oO (.o2 .beq (.uf 314 fK) (.uf 314 uQ)) (oO (.o2 .aN eA (xg x)) (oO (.o2 .beq (.bl false) (eC 1 p5 x)) (oT (eP PO (eP QJ (eP (eC 2 cZ sH) (eP (eC 3 cZ sH) (eP (eC 4 cZ sH) (eP (eC 5 cZ sH) (eP Bs (eP (eC 7 cZ sH) eA)))))))) (JU x) (Mr x))))
abbrev Px (x : E) : List Ob := oO (.o2 .le eY (.il 1000000)) (oO (.uf 111 iM) (oO (.uf 110 (eP PO (eP QJ (eP (eC 4 cZ sH) eA)))) (oO (.o2 .lt sH eY) (oO (.o2 .le eA sH) (oO (.o2 .aN eA (.uf 319 (eP cZ (eP eA eA)))) (oO (.o2 .le eY (.il 1000000)) (oO (.o2 .le eY (.il 1000000)) (oO (.uf 111 iM) (oO (.uf 110 (eP ny (eP mZ (eP (eC 5 gx gm) eA)))) (oT (.uf 108 Yg) pX (adU x)))))))))))
abbrev QH (x : E) : List Ob := oO (.o2 .le eY (.il 1000000)) (oO (.uf 111 iM) (oO (.uf 110 (eP PO (eP QJ (eP (eC 4 cZ sH) eA)))) (oO (.o2 .lt sH eY) (oO (.o2 .le eA sH) (oO (.o2 .aN eA (.uf 319 (eP cZ (eP eA eA)))) (oO (.o2 .le eY (.il 1000000)) (oO (.o2 .le eY (.il 1000000)) (oO (.uf 111 iM) (oO (.uf 110 (eP ny (eP mZ (eP (eC 5 gx gm) eA)))) (oT (.uf 108 (eP cZ (eP (.uf 100 (eP PO (eP QJ eA))) eA))) pX (adU x)))))))))))
abbrev aaQ : aa := fF (.o2 .aN bK (.il 5)) Zu
abbrev Q8 (x : E) : List Ob := oO (.o2 .le eY (.il 1000000)) (oO (.uf 111 iM) (oO (.uf 110 (eP ny (eP mZ (eP (eC 5 gx gm) eA)))) (oT cZ pX (oO (.o2 .beq (.uf 314 fK) (.uf 314 uQ)) (oO (.o2 .aN eA (xg x)) (oO (.o2 .beq (.bl false) (eC 1 p5 x)) (oT cZ (JU x) (Mr x))))))))
abbrev Zy : aa := fF (.o2 .aN bK (.il 6)) aaQ
abbrev Q7 (x : E) : List Ob := oO (.o2 .le eY (.il 1000000)) (oO (.uf 111 iM) (oO (.o2 .le eY (.il 1000000)) (oO (.uf 111 iM) (oO (.uf 110 (eP ny (eP mZ (eP (eC 5 gx gm) eA)))) (oT cZ pX (oO (.o2 .beq (.uf 314 fK) (.uf 314 uQ)) (oO (.o2 .aN eA (xg x)) (oO (.o2 .beq (.bl false) (eC 1 p5 x)) (oT eA (JU x) (oT (.uf 103 iM) (eC 3 p5 x) (aai x)))))))))))
abbrev Ac : E := eP cZ (eP (eC 10 gx gm) eA)
abbrev Zd : aa := fF (.o2 .aN bK (.il 7)) Zy
abbrev abC : aa := fT (.o2 .aN bK (.il 10)) Zd
abbrev yq : E := .uf 104 Ac
abbrev Rm (x : E) : List Ob := oO (.o2 .lt yq eY) (oO (.o2 .le eA yq) (oO (.o2 .le eY (.il 1000000)) (oO (.uf 111 iM) (oO (.o2 .le eY (.il 1000000)) (oO (.uf 111 iM) (oO (.uf 110 (eP ny (eP mZ (eP (eC 5 gx gm) eA)))) (oT cZ pX (oO (.o2 .beq (.uf 314 fK) (.uf 314 uQ)) (oO (.o2 .aN eA (xg x)) (oO (.o2 .beq (.bl true) (eC 1 p5 x)) (oT (eP (eC 0 cZ yq) (eP (eC 1 cZ yq) (eP (eC 2 cZ yq) (eP (eC 3 cZ yq) (eP (eC 4 cZ yq) (eP (eC 5 cZ yq) (eP (eC 6 cZ yq) (eP (eC 7 cZ yq) eA)))))))) (JU x) (Mr x))))))))))))
abbrev EM (x : E) : List Ob := oO (.o2 .le eY (.il 1000000)) (oO (.uf 111 iM) (oO (.uf 110 (eP ny (eP mZ (eP (eC 5 gx gm) eA)))) (oT cZ pX (N4 x))))
abbrev RG (x : E) : List Ob := oO (.o2 .le eY (.il 1000000)) (oO (.uf 111 iM) (EM x))
abbrev Zv : aa := fF (.o2 .aN bK (.il 10)) Zd
abbrev Rb (x : E) : List Ob := oO (.o2 .le eY (.il 1000000)) (oO (.uf 111 iM) (oO (.uf 110 (eP ny (eP mZ (eP (eC 5 gx gm) eA)))) (oT cZ pX (oO (.o2 .beq (.bl true) (.uf 314 uQ)) (oO (.o2 .aN eA (xg x)) (JG x))))))
abbrev aeU : aa := fF (.uf 105 Yg) aez
abbrev aag : aa := fF (.o2 .aN bK (.il 1)) aeU
abbrev ad6 : aa := fF (.o2 .aN bK (.il 3)) aag
abbrev adX : aa := fF (.o2 .aN bK (.il 4)) ad6
abbrev abr : aa := fF (.o2 .aN bK (.il 8)) adX
abbrev abA : aa := fT (.o2 .aN bK (.il 2)) abr
abbrev acn : aa := fF (.uf 314 fK) abA
abbrev ac5 : aa := fF (.o2 .aN bK (.il 2)) abr
abbrev aat : aa := fT (.o2 .aN bK (.il 5)) ac5
abbrev abN : aa := fT (.o2 .aN eY eA) aat
abbrev adR : aa := fF (.o2 .aN eY eA) aat
abbrev ZA : aa := fF (.o2 .aN bK (.il 5)) ac5
abbrev acy : aa := fF (.o2 .aN bK (.il 6)) ZA
abbrev aaN : aa := fF (.o2 .aN bK (.il 7)) acy
abbrev adC : aa := fT (.o2 .aN bK (.il 10)) aaN
abbrev acV : aa := fF (.o2 .aN bK (.il 10)) aaN
abbrev Q6 : E := eP cZ (eP (.uf 100 (eP ny (eP mZ eA))) eA)
abbrev acA : aa := fF X1 (fT Re [])
abbrev aej : aa := fT (.uf 105 Q6) acA
abbrev adL : aa := fT (.o2 .aN bK (.il 1)) aej
abbrev XB (x : E) : List Ob := oO (.o2 .le eY (.il 1000000)) (oO (.uf 110 (eP ny (eP mZ (eP (eC 5 gx gm) eA)))) (oO (.uf 111 iM) (oO (.o2 .le eY (.il 1000000)) (oO (.uf 111 iM) (oO (.uf 110 (eP ny (eP mZ (eP (eC 5 gx gm) eA)))) (oT (.uf 107 (eP cZ (eP ny (eP mZ (eP (eC 3 gx gm) (eP (eC 4 gx gm) (eP (eC 5 gx gm) (eP (eC 6 gx gm) (eP X1 (eP (eC 8 gx gm) eA)))))))))) pX (N4 x)))))))
abbrev acp : aa := fF (.o2 .aN bK (.il 1)) aej
abbrev abT : aa := fT (.o2 .aN bK (.il 3)) acp
abbrev ZX : aa := fF (.o2 .aN bK (.il 3)) acp
abbrev Tg : aa := fF (.o2 .aN bK (.il 4)) ZX
abbrev qz : E := .uf 104 Q6
abbrev SE : aa := fF (.o2 .aN bK (.il 8)) Tg
abbrev Ts : aa := fT (.o2 .aN bK (.il 2)) SE
abbrev Sn : aa := fF (.uf 314 fK) Ts
abbrev Tl : aa := fF (.o2 .aN bK (.il 2)) SE
abbrev Sr : aa := fT (.o2 .aN bK (.il 5)) Tl
abbrev RP : aa := fT (.o2 .aN eY eA) Sr
abbrev Su : aa := fF (.o2 .aN eY eA) Sr
abbrev TB : aa := fF (.o2 .aN bK (.il 5)) Tl
abbrev RW : aa := fF (.o2 .aN bK (.il 6)) TB
abbrev R5 : aa := fF (.o2 .aN bK (.il 7)) RW
abbrev SN : aa := fT (.o2 .aN bK (.il 10)) R5
abbrev Sg : aa := fF (.o2 .aN bK (.il 10)) R5
abbrev RT : aa := fF (.uf 105 Q6) acA
abbrev R6 : aa := fT (.o2 .aN bK (.il 1)) RT
abbrev SP : aa := fF (.o2 .aN bK (.il 1)) RT
abbrev R8 : aa := fT (.o2 .aN bK (.il 3)) SP
abbrev Tw : aa := fF (.o2 .aN bK (.il 3)) SP
abbrev SG : aa := fF (.o2 .aN bK (.il 4)) Tw
abbrev Tm : aa := fF (.o2 .aN bK (.il 8)) SG
abbrev SF : aa := fT (.o2 .aN bK (.il 2)) Tm
abbrev S4 : aa := fF (.uf 314 fK) SF
abbrev Ta : aa := fF (.o2 .aN bK (.il 2)) Tm
abbrev R1 : aa := fT (.o2 .aN bK (.il 5)) Ta
abbrev SB : aa := fT (.o2 .aN eY eA) R1
abbrev Tk : aa := fF (.o2 .aN eY eA) R1
abbrev TM : aa := fF (.o2 .aN bK (.il 5)) Ta
abbrev Tz : aa := fF (.o2 .aN bK (.il 6)) TM
abbrev Td : aa := fF (.o2 .aN bK (.il 7)) Tz
abbrev R2 : aa := fT (.o2 .aN bK (.il 10)) Td
abbrev SA : aa := fF (.o2 .aN bK (.il 10)) Td
def hsG (x : E) : List (aa × List Ob) :=
 [(fT (.o2 .aN bK (.il 1)) aew, Ec x),
  (fT (.o2 .aN bK (.il 3)) acf, Ec x),
  (fT (.o2 .aN bK (.il 4)) ad3, Ec x),
  (fT (.o2 .aN bK (.il 8)) aaj, Ec x),
  (fT (.uf 314 fK) adk, DT x),
  (fT (.uf 166 uX) ac8, Q3 x),
  (fF (.uf 166 uX) ac8, Qf x),
  (fT (.uf 314 fK) ZE, L5 x),
  (fF (.uf 314 fK) ZE, Qc x),
  (fT Bs acm, Px x),
  (fF Bs acm, QH x),
  (fT (.o2 .aN bK (.il 6)) aaQ, Q8 x),
  (fT (.o2 .aN bK (.il 7)) Zy, Q7 x),
  (fT (.uf 105 Ac) abC, Rm x),
  (fF (.uf 105 Ac) abC, RG x),
  (fT (.o2 .aN bK (.il 9)) Zv, Rb x),
  (fF (.o2 .aN bK (.il 9)) Zv, EM x),
  (fT (.o2 .aN bK (.il 1)) aeU, Ec x),
  (fT (.o2 .aN bK (.il 3)) aag, Ec x),
  (fT (.o2 .aN bK (.il 4)) ad6, Ec x),
  (fT (.o2 .aN bK (.il 8)) adX, Ec x),
  (fT (.uf 314 fK) abA, DT x),
  (fT (.uf 166 uX) acn, Q3 x),
  (fF (.uf 166 uX) acn, Qf x),
  (fT (.uf 314 fK) abN, L5 x),
  (fF (.uf 314 fK) abN, Qc x),
  (fT Bs adR, Px x),
  (fF Bs adR, QH x),
  (fT (.o2 .aN bK (.il 6)) ZA, Q8 x),
  (fT (.o2 .aN bK (.il 7)) acy, Q7 x),
  (fT (.uf 105 Ac) adC, Rm x),
  (fF (.uf 105 Ac) adC, RG x),
  (fT (.o2 .aN bK (.il 9)) acV, Rb x),
  (fF (.o2 .aN bK (.il 9)) acV, EM x),
  (fT (.uf 314 fK) adL, DT x),
  (fF (.uf 314 fK) adL, XB x),
  (fT (.uf 314 fK) abT, DT x),
  (fF (.uf 314 fK) abT, EM x),
  (fT (.o2 .aN bK (.il 4)) ZX, oO (.o2 .le eY (.il 1000000)) (oO (.uf 111 iM) (oO (.o2 .le eY (.il 1000000)) (oO (.uf 111 iM) (oO (.uf 110 (eP ny (eP mZ (eP (eC 5 gx gm) eA)))) (oT (.uf 108 Q6) pX (N4 x))))))),
  (fT (.o2 .aN bK (.il 8)) Tg, oO (.o2 .lt qz eY) (oO (.o2 .le eA qz) (oO (.o2 .le eY (.il 1000000)) (oO (.uf 111 iM) (oO (.uf 110 (eP ny (eP mZ (eP (eC 5 gx gm) eA)))) (oT cZ pX (oO (.o2 .beq (.uf 314 fK) (.uf 314 uQ)) (oO (.o2 .aN eA (xg x)) (oO (.o2 .beq (.bl true) (eC 1 p5 x)) (oT (eP (eC 0 cZ qz) (eP (eC 1 cZ qz) (eP (eC 2 cZ qz) (eP (eC 3 cZ qz) (eP (eC 4 cZ qz) (eP (eC 5 cZ qz) (eP (eC 6 cZ qz) (eP (eC 7 cZ qz) eA)))))))) (JU x) (Mr x))))))))))),
  (fT (.uf 314 fK) Ts, DT x),
  (fT (.uf 166 uX) Sn, Q3 x),
  (fF (.uf 166 uX) Sn, Qf x),
  (fT (.uf 314 fK) RP, L5 x),
  (fF (.uf 314 fK) RP, Qc x),
  (fT Bs Su, Px x),
  (fF Bs Su, QH x),
  (fT (.o2 .aN bK (.il 6)) TB, Q8 x),
  (fT (.o2 .aN bK (.il 7)) RW, Q7 x),
  (fT (.uf 105 Ac) SN, Rm x),
  (fF (.uf 105 Ac) SN, RG x),
  (fT (.o2 .aN bK (.il 9)) Sg, Rb x),
  (fF (.o2 .aN bK (.il 9)) Sg, EM x),
  (fT (.uf 314 fK) R6, DT x),
  (fF (.uf 314 fK) R6, XB x),
  (fT (.uf 314 fK) R8, DT x),
  (fF (.uf 314 fK) R8, XB x),
  (fT (.o2 .aN bK (.il 4)) Tw, oO (.o2 .le eY (.il 1000000)) (oO (.uf 111 iM) (oO (.uf 110 (eP ny (eP mZ (eP (eC 5 gx gm) eA)))) (oT cZ pX (oO (.o2 .beq (.uf 314 fK) (.uf 314 uQ)) (oO (.o2 .aN (.il 14) (xg x)) (JG x))))))),
  (fT (.o2 .aN bK (.il 8)) SG, EM x),
  (fT (.uf 314 fK) SF, DT x),
  (fT (.uf 166 uX) S4, Q3 x),
  (fF (.uf 166 uX) S4, Qf x),
  (fT (.uf 314 fK) SB, L5 x),
  (fF (.uf 314 fK) SB, Qc x),
  (fT Bs Tk, Px x),
  (fF Bs Tk, QH x),
  (fT (.o2 .aN bK (.il 6)) TM, Q8 x),
  (fT (.o2 .aN bK (.il 7)) Tz, Q7 x),
  (fT (.uf 105 Ac) R2, Rm x),
  (fF (.uf 105 Ac) R2, RG x),
  (fT (.o2 .aN bK (.il 9)) SA, Rb x),
  (fF (.o2 .aN bK (.il 9)) SA, EM x)]
def Wj : List (aa × List Ob) :=
 hsG (.il 0) ++ [(fF Re [], oT eA p5 [])]
def WM : List (aa × List Ob) :=
 hsG (.v 2212) ++ [(fF Re [], oO (.o2 .le gm (.o1 .ab p5)) (oT (.o2 .cJ p5 gm) p5 []))]
end Go.Proofs.YtdlppkhmmclipaaGreat.sxObj
namespace Go.Proofs.YtdlppkhmmclipaaGreat.sxObj
open Go.Sx Go.RowKit Go.Proofs.YtdlppkhmmclipaaGreat
set_option linter.unusedVariables false
set_option linter.unusedSimpArgs false
set_option maxRecDepth 100000
set_option maxHeartbeats 4000000
theorem least_le {l : Dv} : ∀ n, bL l n <= n
 | 0 => Nat.le_refl _
 | n + 1 => by
   unfold bL; split
   ·omega
   ·exact Nat.le_succ_of_le (least_le n)
theorem RC {l : Dv} {n : Nat} (h : dq (cc (row l n) 5).S (cc (row l (bL l n)) 5).S = true) : bL l (n + 1) = n := by
 show (if _ then _ else _) = _
 rw [if_pos h]
theorem Ry {l : Dv} {n : Nat} (h : dq (cc (row l n) 5).S (cc (row l (bL l n)) 5).S = false) : bL l (n + 1) = bL l n := by
 show (if _ then _ else _) = _
 rw [if_neg (by rw [h]; exact fun q => by cases q)]
theorem WB {r : Row} (h : (cc r 6).B = true) : kS r = ⟨#[]⟩ := by
 unfold kS bad; rw [if_pos h]
theorem tq {S : List Row} (go : dF S) (h : ¬ ((S.length : Nat) : Int) = 0) : jg (row (.t S) (bL (.t S) S.length)) := go _ (ef (d := .t S) (jh _ (by omega)))
theorem PH {Q : Nat -> Prop} {n r : Nat} (hr : r <= gN Q n) (h : ¬ Q r) : gN Q n = r := by
 rcases Nat.lt_or_ge r (gN Q n) with q | q
 ·have h2 := bI (show r < stop (fun j => !dec (Q j)) n from q); rw [Bool.not_eq_false'] at h2; exact absurd (al.1 h2) h
 ·omega
section
variable {o : Env}
theorem WA (hj : OJ o) {r : Nat} (hr : o.v 2210 = .i r) (hle : (r : Int) <= ((aB (.v 7790)).den o).I) : bn o leL := by
 simp only [cP, aB, pk, List.foldr, SS, implies_true] at hle; simp only [leL, af, au, and_true]
 and_intros
 all_goals intro h
 all_goals simp only [SS, implies_true, hr, hj.hp] at h ⊢
 ·have := @least_le (o.v 7790) r; refine ⟨by omega, by omega, ?_⟩
  rw [RC h.1]
 ·have := @least_le (o.v 7790) r; refine ⟨by omega, by omega, ?_⟩
  rw [Ry h.1]
 ·have e : r = (o.v 7790).T.length := by omega
  rw [e]
theorem La {S : List Row} {l : Dv} : ∀ n, (Rw S l n).length <= S.length + n
 | 0 => Nat.le_refl _
 | n + 1 => by
   have ih := @La S l n; have := @Dw (.t (Rw S l n)) (jo (cc (row l n) 0).S (cc (row l n) 1).S) (eight (row l n)); simp only [Tx] at this; show (ew _ _ _).length <= _; omega
theorem Th {S : List Row} {l : Dv} (h : dF S) (hl : dF l.T) : ∀ n, n <= l.T.length -> dF (Rw S l n)
 | 0, _ => h
 | n + 1, hn => QM (l := .t _) (Th h hl n (by omega)) (cF hl (by omega))
theorem Vg (hu : OU o) (hj : OJ o) {r : Nat} (hr : o.v 2211 = .i r) (hent : (hdY.aU 0).ay o) (hle : (r : Int) <= ((E.uf 167 (pk [.v 7792])).den o).I) : bn o hdL := by
 simp only [hdY, hdF, vj, cP, aB, pk, List.foldr, SS, implies_true, hu.mV, hu.Jw, al] at hent hle; obtain ⟨k1, k2, l1, l2⟩ := hent; have hg : gN (qb (o.v 7792)) (o.v 7792).T.length <= (o.v 7792).T.length := j8; simp only [hdL, af, au, and_true]
 and_intros
 all_goals intro h
 all_goals simp only [SS, implies_true, hr, hj.hp, hu.KJ, hu.jq, hu.mV, hu.P6, hu.Jw, al, cD, Classical.not_not] at h ⊢
 ·have hb : ¬ qb (o.v 7792) r := fun q => by unfold qb at q; rw [h.1] at q; cases q
  refine ⟨hY (r := r) (by omega) hb, cF k2 (by omega), ?_⟩
  rw [PH (by omega) hb]
 ·have := uJ (show r <= gN (qb (o.v 7792)) (o.v 7792).T.length by omega) (by omega) h.1
  have hl := @La (o.v 7791).T (o.v 7792) r; exact ⟨by omega, by omega, cF k2 (by omega), Th k1 k2 r (by omega), cF k2 (by omega), rfl⟩
 ·refine ⟨qw (r := r) (by omega) (by omega), ?_⟩
  rw [show r = gN (qb (o.v 7792)) (o.v 7792).T.length by omega]
theorem Hq (hu : OU o) (hj : OJ o) {r : Nat} (hr : o.v 2212 = .i r) (hent : (GH.aU 0).ay o) (hle : (r : Int) <= ((aB (.v 7795)).den o).I) {x : E} (hx : x.den o = .i r) : bn o (hsG x) := by
 simp only [GH, D5, cP, aB, pk, List.foldr, SS, implies_true, hj.hp, al] at hent hle; obtain ⟨hf, hlen⟩ := hent; obtain ⟨gg, go, gl, gv, gr, gn, gb, gi, ga⟩ := lP hf r (by omega)
 simp only [hsG, af, au, and_true]
 and_intros
 all_goals intro h
 all_goals simp only [SS, implies_true, hr, hx, hu.mr, hu.Ki, hu.AB, hu.Ga, hu.KJ, hu.Qv, hu.jq, hu.mV, hu.P6, hu.Jw, hj.hp, al, cD, Classical.not_not] at h ⊢
 all_goals (repeat (have b := h.1; replace h := h.2))
 all_goals have hl : r < (o.v 7795).T.length := by omega
 all_goals have hA := wU hl
 all_goals have hS : gU (o.v 7795) (r + 1) = (bN (row (o.v 7795) r) (gU (o.v 7795) r)).1 := rfl
 all_goals obtain ⟨⟨k0, k1, k2⟩, p2, p3⟩ := hf.1 r hl
 all_goals generalize gU (o.v 7795) r = s at *
 all_goals generalize row (o.v 7795) r = p at *
 all_goals generalize hq : bN p s = z at *
 all_goals first
  | have hb : (cc p 7).B = true := by assumption
  | have hb : (cc p 7).B = false := by assumption
  | have hb : True := trivial
 all_goals unfold bN at hq
 all_goals (repeat first
  | rw [if_pos (⟨by omega, hb⟩ : (_ \/ _ \/ _ \/ _) /\ _ = true)] at hq
  | rw [if_neg (fun q => by have q1 := q.1; have q2 := q.2; first | omega | (rw [hb] at q2; cases q2))] at hq
  | rw [if_pos (by omega)] at hq
  | rw [if_neg (by omega)] at hq
  | rw [if_pos (by assumption)] at hq
  | rw [if_neg (fun q => Bool.noConfusion (q.symm.trans (show _ = false by assumption)))] at hq
  | rw [if_pos (List.length_eq_zero_iff.1 (by omega))] at hq
  | rw [if_neg (fun q => by have := congrArg List.length q; simp only [List.length_nil] at this; omega)] at hq
  | rw [if_pos (al.2 (by assumption))] at hq
  | rw [if_neg (fun q => absurd (al.1 q) (by assumption))] at hq)
 all_goals subst hq
 all_goals simp only [hA, hS]
 all_goals repeat' refine And.intro ?_ ?_
 all_goals first
  | rfl | trivial | assumption | omega
  | exact ⟨k0, k1, k2⟩
  | exact List.Perm.refl _
  | exact (tq go (by omega)).1
  | exact (tq go (by omega)).2.1
  | exact (tq go (by omega)).2.2
  | exact Int.ofNat_lt.2 (jh _ (by omega))
  | exact congrArg (fun z => [z]) (gg.e _ (ef (d := .t s.S) (jh _ (by omega))))
  | exact congrArg (fun z => [z]) (gg.e _ (ef (d := .t s.S) (mu (k := (cc p 10).S) (by assumption)).1))
  | exact congrArg (fun z => [z]) (gg.e _ (ef (d := .t s.S) (mu (k := bd p) (by assumption)).1))
  | exact Int.ofNat_lt.2 (mu (k := (cc p 10).S) (by assumption)).1
  | exact Int.ofNat_lt.2 (mu (k := bd p) (by assumption)).1
  | (rw [WB (r := row (.t s.S) (bL (.t s.S) s.S.length)) (by assumption)]; done)
  | (rw [mW (r := row (.t s.S) (bL (.t s.S) s.S.length)) (by assumption)]; done)
theorem P4 (hu : OU o) (hj : OJ o) {r : Nat} (hr : o.v 2212 = .i r) (hent : (GH.aU 0).ay o) (hle : (r : Int) <= ((aB (.v 7795)).den o).I) : bn o WM := by
 refine oY (Hq hu hj hr hent hle hr) ?_; simp only [GH, D5, cP, aB, pk, List.foldr, SS, implies_true, hj.hp, al] at hent hle; obtain ⟨hf, hlen⟩ := hent; obtain ⟨gg, go, gl, gv, gr, gn, gb, gi, ga⟩ := lP hf r (by omega)
 simp only [af, au, and_true]; intro h
 all_goals simp only [SS, implies_true, hr, hu.mr, hu.Ki, hu.AB, hu.Ga, hu.KJ, hu.Qv, hu.jq, hu.mV, hu.P6, hu.Jw, hj.hp, al, cD, Classical.not_not] at h ⊢
 exact ⟨by rw [kC]; omega, eF (by rw [kC]; omega)⟩
theorem Qt (hu : OU o) (hj : OJ o) {r : Nat} (hr : o.v 2212 = .i r) (hent : (GH.aU 0).ay o) (hmf : (GH.mf 0).ay o) (hle : (r : Int) <= ((aB (.v 7795)).den o).I) : bn o Wj := by
 have hmf : aa.ay o [(.o2 .aN (.v 2212) (.il 0), true)] := hmf; simp only [SS, implies_true, hr] at hmf; have hr0 : r = 0 := by omega
 refine oY (Hq hu hj hr hent hle (by rw [hr0]; rfl)) ?_
 simp only [GH, D5, cP, aB, pk, List.foldr, SS, implies_true, hj.hp, al] at hent hle; obtain ⟨hf, hlen⟩ := hent; obtain ⟨gg, go, gl, gv, gr, gn, gb, gi, ga⟩ := lP hf r (by omega)
 simp only [af, au, and_true]; intro h
 all_goals simp only [SS, implies_true, hr, hu.mr, hu.Ki, hu.AB, hu.Ga, hu.KJ, hu.Qv, hu.jq, hu.mV, hu.P6, hu.Jw, hj.hp, al, cD, Classical.not_not] at h ⊢
 have : (kY (o.v 7795)).length = 0 := by rw [kC]; omega
 exact (List.length_eq_zero_iff.1 this).symm
end
def YT (l : Dv) (j : Nat) : Prop := Jr (cc (row l j) 1) (cc (row l j) 2) (cc (row l j) 3) (cc (row l j) 4) (cc (row l j) 5) (cc (row l j) 6) /\ tG (cc (row l j) 9) /\ (cc (row l j) 10).S.size <= 2147483647
def Ai (l : Dv) : Prop := eg (YT l) l.T.length /\ l.T.length <= 2147483647
def YZ (l : Dv) (j : Nat) : Prop := 1 <= (cc (row l j) 0).I /\ (cc (row l j) 0).I <= 10 /\ small (cc (row l j) 1) (cc (row l j) 2) (cc (row l j) 3) (cc (row l j) 4) (cc (row l j) 5) (cc (row l j) 6) (cc (row l j) 8) /\ vC (cc (row l j) 9) /\ (cc (row l j) 10).S.size <= 41
def Am (l : Dv) : Prop := eg (YZ l) l.T.length /\ l.T.length <= 80
noncomputable def aam (c : Nat) (d : Dv) : Dv :=
 match c with
 | 330 => .b (dec (¬ eg (YT (ar d 0)) (ar d 0).T.length))
 | 331 => .i (gN (YT (ar d 0)) (ar d 0).T.length : Nat)
 | 332 => .b (dec (Ai (ar d 0)))
 | 333 => .b (dec (¬ eg (YZ (ar d 0)) (ar d 0).T.length))
 | 334 => .i (gN (YZ (ar d 0)) (ar d 0).T.length : Nat)
 | 335 => .b (dec (Am (ar d 0)))
 | _ => .i 0
def OG (o : Env) : Prop := ∀ c d, 330 <= c -> c < 340 -> o.uf c d = aam c d
theorem OG.aA {o o' : Env} (h : OG o) (e : o'.uf = o.uf) : OG o' := fun c d h1 h2 => by rw [e]; exact h c d h1 h2
theorem OG.all {o : Env} (h : OG o) : (∀ d, o.uf 330 d = .b (dec (¬ eg (YT (ar d 0)) (ar d 0).T.length))) /\ (∀ d, o.uf 331 d = .i (gN (YT (ar d 0)) (ar d 0).T.length : Nat)) /\ (∀ d, o.uf 332 d = .b (dec (Ai (ar d 0)))) /\
    (∀ d, o.uf 333 d = .b (dec (¬ eg (YZ (ar d 0)) (ar d 0).T.length))) /\ (∀ d, o.uf 334 d = .i (gN (YZ (ar d 0)) (ar d 0).T.length : Nat)) /\ (∀ d, o.uf 335 d = .b (dec (Am (ar d 0)))) :=
 ⟨fun d => h 330 d (by decide) (by decide), fun d => h 331 d (by decide) (by decide), fun d => h 332 d (by decide) (by decide), fun d => h 333 d (by decide) (by decide), fun d => h 334 d (by decide) (by decide), fun d => h 335 d (by decide) (by decide)⟩
def vN : Nat := 7
def qY : Nat := 8
def wg : Nat := 12
def PX : ak := NV vN 4 18 2 O0 8 10 ([4] ++ ke 11 18) 0 7850 2220 330 331 (⟨[(Jp, XV.aS), (uh, Mb.aS)], []⟩ : gX).x
def P8 : cA := rK vN [.bQ O0 (.v 7851)] [7851] [] 332 [.v 7851] (⟨[], [(vN, 4, PX.cW)]⟩ : gX).x
def JI : ak := NV qY 2 41 2 O0 5 7 ([4] ++ ke 8 38) 0 7852 2221 333 334 (⟨[(l5, Pd.aS), (lH, L6.aS)], []⟩ : gX).x [] [] [] [] [(.uf 332 (pk [.v 7852]), true)]
def O9 : cA := rK qY [.bQ O0 (.v 7853)] [7853] [(.uf 332 (pk [.v 7853]), true)] 335 [.v 7853] (⟨[], [(qY, 2, JI.cW)]⟩ : gX).x
def OF : gX := ⟨[], [(Ae, 4, Gz.cW)]⟩
def GR : cA where
 f := 10
 args := [.bQ O0 (.v 7856)]
 params := [7856]
 aU := [(.uf 316 (pk [.v 7856]), true), cP (aB (.v 7856)) (.il 2000)]
 app := fun _ => true
 bp := [(.bl true, 0)]
 kind := fun _ => some 0
 out := fun _ => .bQ J1 (.uf 315 (pk [.v 7856]))
 X := OF.x
 fuel := 400; np := 500
 Jq := [(SJ, Og)]
def O8 : cA where
 f := wg
 args := []
 params := []
 aU := []
 app := fun _ => true
 bp := [(.bl true, 0)]
 kind := fun _ => some 0
 out := fun _ => .bool (.bl true)
 X := OF.x
 fuel := 1000; np := 800
 Jq := [(SJ, Og)]
def Vs : gX := ⟨[(vN, P8.aS), (qY, O9.aS), (qV, saF.aS), (wg, O8.aS), (10, GR.aS)], [(Al, 5, GH.cW)]⟩
def ad4 : List PK := [.bQ O0]
end Go.Proofs.YtdlppkhmmclipaaGreat.sxObj
namespace Go.Proofs.YtdlppkhmmclipaaGreat.sxObj
open Go.Sx
set_option linter.unusedVariables false
set_option maxRecDepth 100000
abbrev Mh : E := .v 7850
abbrev NP : E := .v 2220
abbrev ou2 : E := .o2 .lt (.il 2147483647) (.o1 .size (eC 10 Mh NP))
abbrev nF : E := .il 0
abbrev ou4 : E := .uf 139 (eP (eC 9 Mh NP) nF)
abbrev ou5 : E := .uf 136 (eP (eC 1 Mh NP) (eP (eC 2 Mh NP) (eP (eC 3 Mh NP) (eP (eC 4 Mh NP) (eP (eC 5 Mh NP) (eP (eC 6 Mh NP) nF))))))
abbrev ou6 : E := .o2 .lt NP (.o1 .ab Mh)
abbrev ou7 : aa := fT ou5 (fT ou6 [])
abbrev ou8 : E := .uf 330 (eP Mh nF)
def LQ : List (aa × List Ob) :=
 [(fT ou2 (fT ou4 ou7), oO ou8 []),
  (fF ou2 (fT ou4 ou7), oO (.o2 .lt NP (.uf 331 (eP Mh nF))) []),
  (fF ou4 ou7, oO ou8 []),
  (fF ou5 (fT ou6 []), oO ou8 []),
  (fF ou6 [], oO (.o1 .not ou8) [])]
abbrev ou9 : E := .o2 .lt (.il 2147483647) (.o1 .ab (.v 7851))
abbrev Br : E := .bl false
abbrev aaz : E := .uf 332 (eP (.v 7851) nF)
abbrev Z7 : List Ob := oO (.o2 .beq Br aaz) []
abbrev acd : E := .uf 330 (eP (.v 7851) nF)
def Yw : List (aa × List Ob) :=
 [(fT ou9 [], Z7),
  (fT acd (fF ou9 []), Z7),
  (fF acd (fF ou9 []), oO (.o2 .beq (.bl true) aaz) [])]
abbrev l6 : E := .v 7852
abbrev lW : E := .v 2221
abbrev abD : E := .o2 .lt (eC 0 l6 lW) (.il 1)
abbrev U1 : E := .o2 .lt lW (.o1 .ab l6)
abbrev Mi : E := .uf 333 (eP l6 nF)
abbrev WL : E := .o2 .lt (.il 10) (eC 0 l6 lW)
abbrev Un : aa := fF abD (fT U1 [])
abbrev Z0 : E := .o2 .lt (.il 41) (.o1 .size (eC 10 l6 lW))
abbrev OC : E := eP (eC 9 l6 lW) nF
abbrev ae0 : E := .uf 150 (eP (eC 1 l6 lW) (eP (eC 2 l6 lW) (eP (eC 3 l6 lW) (eP (eC 4 l6 lW) (eP (eC 5 l6 lW) (eP (eC 6 l6 lW) (eP (eC 7 l6 lW) (eP (eC 8 l6 lW) nF))))))))
abbrev aa8 : aa := fT ae0 (fF WL Un)
abbrev Zl : aa := fT (.uf 153 OC) aa8
abbrev YG : List Ob := oO (.uf 136 (eP (eC 1 l6 lW) (eP (eC 2 l6 lW) (eP (eC 3 l6 lW) (eP (eC 4 l6 lW) (eP (eC 5 l6 lW) (eP (eC 6 l6 lW) nF))))))) []
abbrev aaV : List Ob := oO Mi (oO (.uf 139 OC) YG)
def LV : List (aa × List Ob) :=
 [(fT abD (fT U1 []), oO Mi []),
  (fT WL Un, oO Mi []),
  (fT Z0 Zl, aaV),
  (fF Z0 Zl, oO (.o2 .lt lW (.uf 334 (eP l6 nF))) (oO (.o2 .le (.o2 .add lW (.il 1)) (.il 9223372036854775807)) (oO (.uf 139 OC) YG))),
  (fF (.uf 153 OC) aa8, aaV),
  (fF ae0 (fF WL Un), oO Mi YG),
  (fF U1 [], oO (.o1 .not Mi) [])]
abbrev ab6 : E := .uf 333 (eP (.v 7853) nF)
abbrev abu : E := .uf 335 (eP (.v 7853) nF)
def VM : List (aa × List Ob) :=
 [(fT ab6 [], oO (.o2 .beq Br abu) []),
  (fF ab6 [], oO (.o2 .beq (.o2 .le (.o1 .ab (.v 7853)) (.il 80)) abu) [])]
abbrev DC : E := eP (.v 0) nF
abbrev aaS : aa := fT (.o2 .le (.o1 .ab (.v 0)) (.il 9223372036854775807)) []
abbrev ZQ : aa := fT (.uf 332 DC) aaS
abbrev NX : E := eP nF nF
def WN : List (aa × List Ob) :=
 [(fT (.uf 335 DC) ZQ, oO (.bl true) (oO (.uf 132 (eP (.uf 315 DC) nF)) (oO (.o2 .le (.o1 .ab (.uf 315 DC)) (.il 2147483647)) (oO (.o2 .beq Br (.uf 314 (eP (.v 0) NX))) (oT nF (.uf 320 (eP (.v 0) NX)) (oO (.o2 .le (.o1 .ab (.v 0)) (.il 2000)) (oO (.uf 316 DC) (oO (.o2 .le (.o1 .ab (.v 0)) (.il 2000)) (oO (.uf 316 DC) []))))))))),
  (fF (.uf 335 DC) ZQ, oO (.bl true) []),
  (fF (.uf 332 DC) aaS, oO (.bl true) [])]
abbrev J9 : E := eP (.v 7856) NX
def KT : List (aa × List Ob) :=
 [([], oO (.o2 .beq Br (.uf 314 J9)) (oO (.o2 .aN nF (.uf 311 J9)) (oT nF (.uf 312 J9) (oO (.o2 .aN (.o1 .ab (.uf 310 J9)) nF) (oT nF (.uf 313 J9) [])))))]
abbrev uG : E := .sl []
abbrev VJ : E := eP Br (eP Br (eP nF (eP uG nF)))
abbrev Pg : E := .o2 .fR (eP (.il 1) (eP uG (eP (.sl [97]) (eP uG (eP uG (eP nF (eP (.sl [50]) VJ))))))) (.o2 .fR (eP (.il 1) (eP uG (eP (.sl [98]) (eP uG (eP uG (eP nF (eP (.sl [49]) VJ))))))) (eP (.il 5) (eP uG (eP uG (eP uG (eP uG (eP nF (eP uG VJ))))))))
abbrev UQ : E := .uf 315 (eP Pg nF)
abbrev adA : E := .o2 .aN (.o1 .ab (eC 2 UQ (.il 2))) (.il 1)
abbrev UB : E := .o2 .aN (.o1 .ab UQ) (.il 3)
abbrev yu : E := eP Pg NX
abbrev acz : List Ob := oO (.o2 .beq Br (.uf 314 yu)) (oO (.o2 .aN nF (.uf 311 yu)) (oT nF (.uf 312 yu) (oO (.o2 .aN (.o1 .ab (.uf 310 yu)) nF) (oT nF (.uf 313 yu) (oO (.uf 316 (eP Pg nF)) (oO (.o2 .beq Br (.bl true)) []))))))
def VP : List (aa × List Ob) :=
 [(fT adA (fT UB []), oO (.o2 .beq Br (.uf 314 yu)) (oO (.o2 .aN nF (.uf 311 yu)) (oT nF (.uf 312 yu) (oO (.o2 .aN (.o1 .ab (.uf 310 yu)) nF) (oT nF (.uf 313 yu) (oO (.uf 316 (eP Pg nF)) (oO (.o2 .beq (.o2 .seq (eC 1 (eC 2 UQ (.il 2)) nF) (.sl [98])) (.bl true)) []))))))),
  (fF adA (fT UB []), acz),
  (fF UB [], acz)]
end Go.Proofs.YtdlppkhmmclipaaGreat.sxObj
namespace Go.Proofs.YtdlppkhmmclipaaGreat.sxObj
open Go.Sx Go.RowKit Go.Proofs.YtdlppkhmmclipaaGreat
set_option linter.unusedVariables false
set_option linter.unusedSimpArgs false
set_option maxRecDepth 100000
def u7 (q : NU × Row) : Prop := qD q.2
theorem m8 {c : Prop} [d : Decidable c] {t e : NU × Row} (h1 : c -> u7 t) (h2 : ¬ c -> u7 e) : u7 (if c then t else e) := by
 cases d with
 | isTrue h => exact h1 h
 | isFalse h => exact h2 h
theorem Mk {s : NU} {m : Nat} {p : Row} (G : yz s.S s.h m) (hm : m <= 100000) : qD (bN p s).2 := by
 have hl := G.l; have none : ∀ {e : Int} {b : Bool}, qD (aY e b [] []) := fun {e b} => ⟨ld, Nat.zero_le _, Nat.zero_le _⟩
 have one : ∀ {b : Bool} {n : Nat}, n < s.S.length -> qD (aY 0 b [row (.t s.S) n] []) := fun {b n} hn => ⟨fun r hr => by
  have hr : r ∈ [row (.t s.S) n] := hr; rw [List.mem_singleton] at hr; rw [hr]
  exact G.o _ (ef (d := .t s.S) hn), (by decide : 1 <= 2147483647), Nat.zero_le _⟩
 show u7 _; unfold bN; refine m8 (fun _ => none) fun _ => ?_; refine m8 (fun _ => m8 (fun _ => none) fun _ => none) fun _ => ?_; refine m8 (fun _ => m8 (fun _ => none) fun _ => m8 (fun _ => none) fun _ => none) fun _ => ?_; refine m8 (fun _ => m8 (fun _ => none) fun _ => none) fun _ => ?_; refine m8 (fun _ => m8 (fun _ => none) fun _ => none) fun _ => ?_; refine m8 (fun _ => m8 (fun _ => none) fun h => one (jh _ (Nat.pos_of_ne_zero fun q => h (List.length_eq_zero_iff.1 q)))) fun _ => ?_; refine m8 (fun _ => ⟨G.o, by show s.S.length <= _; omega, Nat.zero_le _⟩) fun _ => ?_
 refine m8 (fun _ => ⟨ld, Nat.zero_le _, by show (s.S.map bP).length <= _; rw [List.length_map]; omega⟩) fun _ => ?_
 refine m8 (fun _ => m8 (fun h => one (mu h).1) fun _ => none) fun _ => ?_; refine m8 (fun _ => m8 (fun h => one (mu h).1) fun _ => none) fun _ => ?_; exact m8 (fun _ => none) fun _ => none
theorem IA {ops : Dv} (h : tD ops) : ∀ r ∈ kY ops, qD r := fun r hr => by
 obtain ⟨n, hn, rfl⟩ := List.mem_map.1 hr; have hn := List.mem_range.1 hn; have := h.2; exact Mk (lP h n (by omega)) (by omega)
theorem KF {l : Dv} (h1 : Ai l) (h2 : Am l) : tD l := ⟨fun j hj => by
 obtain ⟨⟨a, b, _, _, c, _⟩, d, _⟩ := h1.1 j hj
 exact ⟨⟨a, b, c.2⟩, JN d, (h2.1 j hj).2.2.2.1.2⟩, Nat.le_trans h2.2 (by decide)⟩
def yN : Row := [.i 1, .s ⟨[].toArray⟩, .s ⟨[97].toArray⟩, .s ⟨[].toArray⟩, .s ⟨[].toArray⟩, .i 0, .s ⟨[50].toArray⟩, .b false, .b false, .i 0, .s ⟨[].toArray⟩]
def FJ : Row := [.i 1, .s ⟨[].toArray⟩, .s ⟨[98].toArray⟩, .s ⟨[].toArray⟩, .s ⟨[].toArray⟩, .i 0, .s ⟨[49].toArray⟩, .b false, .b false, .i 0, .s ⟨[].toArray⟩]
def awC : Row := [.i 5, .s ⟨[].toArray⟩, .s ⟨[].toArray⟩, .s ⟨[].toArray⟩, .s ⟨[].toArray⟩, .i 0, .s ⟨[].toArray⟩, .b false, .b false, .i 0, .s ⟨[].toArray⟩]
def KD : Dv := .t [yN, FJ, awC]
def awS : List Row := ew (.t (ew (.t []) (bd yN) (dG yN))) (bd FJ) (dG FJ)
theorem adp : (gU KD 2).S = awS /\ (gU KD 2).c = false := by
 have e1 : gU KD 1 = ⟨ew (.t []) (bd yN) (dG yN), false, fu ⟨[], 0, [], []⟩ (hZ yN) (dM yN)⟩ := by
  show (bN yN ⟨[], false, ⟨[], 0, [], []⟩⟩).1 = _; rw [Jm rfl rfl, if_neg (fun q => by cases q)]
 have e2 : gU KD 2 = (bN FJ (gU KD 1)).1 := rfl; rw [e2, e1, Jm rfl rfl, if_neg (fun q => by cases q)]
 exact ⟨rfl, rfl⟩
theorem Gx {a b : List UInt8} (h : a < b) : dq ⟨a.toArray⟩ ⟨b.toArray⟩ = true := by
 rw [uj, toList_data, toList_data, decide_eq_true_eq]; exact h
theorem afD : awS = [dG yN, dG FJ] := by
 have e0 : ew (.t []) (bd yN) (dG yN) = [dG yN] := rfl
 have e1 : iL (.t [dG yN]) (bd FJ) = 1 := by
  show stop (J5 (.t [dG yN]) (bd FJ)) 1 = 1; unfold stop; rw [if_neg]
  ·rfl
  ·show ¬ (!dq (kS (dG yN)) (bd FJ)) = true; rw [show dq (kS (dG yN)) (bd FJ) = true from Gx (a := [97]) (b := [98]) (by decide)]
   decide
 have e2 : gZ (.t [dG yN]) (bd FJ) = false := by
  unfold gZ; rw [e1]; rfl
 unfold awS; rw [e0]; unfold ew; rw [e1, e2]; rfl
theorem Lh : bL (.t [dG yN, dG FJ]) 2 = 1 := by
 have e1 : bL (.t [dG yN, dG FJ]) 1 = 0 := by
  unfold bL; split <;> rfl
 unfold bL; rw [e1, if_pos]; exact Gx (a := [49]) (b := [50]) (by decide)
theorem Vx : row (.t (kY KD)) 2 = aY 0 false [dG FJ] [] := by
 obtain ⟨a, b⟩ := adp; rw [afD] at a; rw [wU (show 2 < KD.T.length by decide), show row KD 2 = awC from rfl, Qj rfl, if_neg, a]
 ·show aY 0 false [row (.t [dG yN, dG FJ]) (bL (.t [dG yN, dG FJ]) 2)] [] = _; rw [Lh]; rfl
 ·rw [a]; exact fun q => by cases q
theorem ac2 : Dv.t ([[Dv.i 1, Dv.s ⟨[].toArray⟩, Dv.s ⟨[97].toArray⟩, Dv.s ⟨[].toArray⟩, Dv.s ⟨[].toArray⟩, Dv.i 0, Dv.s ⟨[50].toArray⟩, Dv.b false, Dv.b false, Dv.i 0, Dv.s ⟨[].toArray⟩]] ++
    ([[Dv.i 1, Dv.s ⟨[].toArray⟩, Dv.s ⟨[98].toArray⟩, Dv.s ⟨[].toArray⟩, Dv.s ⟨[].toArray⟩, Dv.i 0, Dv.s ⟨[49].toArray⟩, Dv.b false, Dv.b false, Dv.i 0, Dv.s ⟨[].toArray⟩]] ++
     [[Dv.i 5, Dv.s ⟨[].toArray⟩, Dv.s ⟨[].toArray⟩, Dv.s ⟨[].toArray⟩, Dv.s ⟨[].toArray⟩, Dv.i 0, Dv.s ⟨[].toArray⟩, Dv.b false, Dv.b false, Dv.i 0, Dv.s ⟨[].toArray⟩]])) = KD := id rfl
theorem T8 : Int.toNat 2 = 2 := id rfl
theorem UU : (kY KD).length = 3 := kC
theorem Qs : tD KD := ⟨fun j hj => by
 have hj : j < 3 := hj; rcases j with _ | _ | _ | j
 ·exact ⟨⟨by decide, by decide, by decide⟩, ld, by decide⟩
 ·exact ⟨⟨by decide, by decide, by decide⟩, ld, by decide⟩
 ·exact ⟨⟨by decide, by decide, by decide⟩, ld, by decide⟩
 ·omega, by decide⟩
section
variable {o : Env}
theorem M3 (hu : OU o) (hg : OG o) {r : Nat} (hr : o.v 2220 = .i r) (hle : (r : Int) <= ((E.uf 331 (pk [.v 7850])).den o).I) : bn o LQ := by
 simp only [pk, List.foldr, SS, implies_true, hg.all] at hle; have hle : r <= gN (YT (o.v 7850)) (o.v 7850).T.length := by omega
 simp only [LQ, af, au, and_true]
 and_intros
 all_goals intro h
 all_goals simp only [SS, implies_true, hr, hu.Je, hu.N2, hg.all, al, cD, Classical.not_not] at h ⊢
 all_goals first
  | exact qw hle (by omega)
  | exact hY (r := r) (by omega) (fun q => by have := q.2.2; omega)
  | exact hY (r := r) (by omega) (fun q => h.1 q.2.1)
  | exact hY (r := r) (by omega) (fun q => h.1 q.1)
  | (have := uJ hle (by omega) ⟨h.2.2.1, h.2.1, by omega⟩; omega)
theorem Pk (hg : OG o) : bn o Yw := by
 simp only [Yw, af, au, and_true]
 and_intros
 all_goals intro h
 all_goals simp only [SS, implies_true, hg.all, al, cD, tX, ui, Classical.not_not, Ai] at h ⊢
 ·omega
 ·exact fun q => h.1 q.1
 ·exact ⟨h.1, by omega⟩
theorem LF (hu : OU o) (hg : OG o) {r : Nat} (hr : o.v 2221 = .i r) (hent : (JI.aU 0).ay o) (hle : (r : Int) <= ((E.uf 334 (pk [.v 7852])).den o).I) : bn o LV := by
 simp only [JI, NV, pk, List.foldr, SS, implies_true, hg.all, al] at hent hle; have hle : r <= gN (YZ (o.v 7852)) (o.v 7852).T.length := by omega
 obtain ⟨f1, f2⟩ := hent; simp only [LV, af, au, and_true]
 and_intros
 all_goals intro h
 all_goals simp only [SS, implies_true, hr, hu.Je, hu.N2, hu.WI, hu.abK, hg.all, al, cD, Classical.not_not] at h ⊢
 all_goals first
  | exact qw hle (by omega)
  | (have f3 := f1 r (by omega); and_intros)
 all_goals try first
  | omega
  | exact f3.2.1.1 | exact f3.2.1.2 | exact f3.1.1 | exact f3.1.2.1 | exact f3.1.2.2.1 | exact f3.1.2.2.2.1 | exact f3.1.2.2.2.2.1.1 | exact f3.1.2.2.2.2.1.2 | exact f3.1.2.2.2.2.2
  | exact hY (r := r) (by omega) (fun q => by have := q.1; omega)
  | exact hY (r := r) (by omega) (fun q => by have := q.2.1; omega)
  | exact hY (r := r) (by omega) (fun q => by have := q.2.2.2.2; omega)
  | exact hY (r := r) (by omega) (fun q => h.1 q.2.2.1)
  | exact hY (r := r) (by omega) (fun q => h.1 q.2.2.2.1)
 all_goals have := uJ hle (by omega) ⟨by omega, by omega, h.2.2.1, h.2.1, by omega⟩
 all_goals omega
theorem NZ (hg : OG o) : bn o VM := by
 simp only [VM, af, au, and_true]
 and_intros
 all_goals intro h
 all_goals simp only [SS, implies_true, hg.all, al, cD, tX, ui, GO, Classical.not_not, Am] at h ⊢
 ·exact fun q => h q.1
 ·exact ⟨fun q => ⟨h, by omega⟩, fun q => by omega⟩
theorem NC (hj : OJ o) : bn o KT := by
 simp only [KT, af, au, and_true]
 and_intros
 all_goals intro h
 all_goals simp only [SS, implies_true, hj.hp] at h ⊢
 exact ⟨rfl, rfl, rfl, rfl, rfl⟩
theorem QU (hj : OJ o) : bn o VP := by
 simp only [VP, af, au, and_true]
 and_intros
 all_goals intro h
 all_goals simp only [SS, implies_true, hj.hp, al] at h ⊢
 all_goals simp only [ac2, T8, Vx, UU] at h ⊢
 ·exact ⟨rfl, rfl, rfl, rfl, rfl, Qs, rfl⟩
 ·exact absurd rfl h.1
 ·exact absurd rfl h
theorem PC (hu : OU o) (hj : OJ o) (hg : OG o) : bn o WN := by
 simp only [WN, af, au, and_true]
 and_intros
 all_goals intro h
 all_goals simp only [SS, implies_true, hu.aeN, hj.hp, hg.all, al, cD, Classical.not_not] at h ⊢
 obtain ⟨h1, h2, h3⟩ := h; have hf := KF h2 h1; have hl := hf.2; refine ⟨IA hf, ?_, rfl, rfl, by omega, hf, by omega, hf⟩
 rw [kC]; omega
end
end Go.Proofs.YtdlppkhmmclipaaGreat.sxObj
namespace Go.Proofs.YtdlppkhmmclipaaGreat.sxObj
open Go.Sx
set_option linter.unusedVariables false
set_option maxRecDepth 100000
abbrev op0 : E := eC 5 (.v 7700) (.v 7701)
abbrev op1 : E := eC 5 (.v 7702) (.v 7703)
abbrev aw : E := .il 0
abbrev op3 : E := .uf 100 (eP (eC 0 (.v 7700) (.v 7701)) (eP (eC 1 (.v 7700) (.v 7701)) aw))
abbrev op4 : E := .uf 100 (eP (eC 0 (.v 7702) (.v 7703)) (eP (eC 1 (.v 7702) (.v 7703)) aw))
abbrev op5 : E := .uf 280 (eP op0 (eP op3 (eP op1 (eP op4 aw))))
def LG : List (aa × List Ob) :=
 [(fT (.o2 .seq op0 op1) [], oO (.o2 .beq (.o2 .slt op3 op4) op5) []),
  (fF (.o2 .seq op0 op1) [], oO (.o2 .beq (.o2 .slt op0 op1) op5) [])]
abbrev xp : E := .v 7711
abbrev op7 : E := eP (.v 7710) (eP xp (eP (.v 7712) (eP (.v 7713) (eP (.v 2200) aw))))
abbrev q8 : E := .uf 283 op7
abbrev Ze : E := .o2 .sub q8 (.il 1)
abbrev eZ : E := .o2 .quo Ze (.il 2)
abbrev yB : E := .il 9223372036854775807
abbrev qF : E := .il (-9223372036854775808)
abbrev NH : E := .uf 282 op7
abbrev XL : E := eP (.v 7710) (eP xp (eP (.v 7712) (eP (.v 7713) aw)))
abbrev nS : E := .uf 281 op7
abbrev ad1 : List Ob := oT NH (.uf 286 XL) (oT nS (.uf 285 XL) [])
abbrev Xp : List Ob := oO (.o2 .le qF Ze) ad1
abbrev acE : aa := fF (.o2 .aN eZ q8) []
abbrev acP : aa := fF (.o2 .lt (.v 7714) q8) acE
abbrev XK : E := .o2 .fy (.o2 .fy nS (eP eZ (eP (eC 0 nS q8) aw))) (eP q8 (eP (eC 0 nS eZ) aw))
abbrev Vz : E := .o2 (.mf .s) xp (eC 0 XK q8)
abbrev UG : E := .o2 (.mf .s) xp (eC 0 XK eZ)
abbrev Af : E := .o2 (.mf .s) xp (eC 0 nS q8)
abbrev wL : E := eC 0 NH (eC 1 xp Af)
abbrev BD : E := .o2 (.mf .s) xp (eC 0 nS eZ)
abbrev xC : E := eC 0 NH (eC 1 xp BD)
abbrev W1 : E := .uf 280 (eP (eC 5 wL aw) (eP (.uf 100 (eP (eC 0 wL aw) (eP (eC 1 wL aw) aw))) (eP (eC 5 xC aw) (eP (.uf 100 (eP (eC 0 xC aw) (eP (eC 1 xC aw) aw))) aw))))
abbrev aea : aa := fF (.o2 .lt (.v 7714) eZ) acP
abbrev abm : aa := fT (.o2 .le aw Af) aea
abbrev US : aa := fT (.o2 .le aw BD) abm
abbrev abd : aa := fT (.o2 .le aw UG) (fT W1 US)
abbrev KN : E := eC 1 xp Vz
abbrev LJ : E := eC 1 xp UG
abbrev Ve : E := eP (.v 7710) (eP xp (eP (.v 7712) (eP (.v 7713) (eP (.o2 .add (.v 2200) (.il 1)) aw))))
abbrev adK : E := .o2 .fy NH (eP LJ (eP (eC 0 NH LJ) (eP eZ aw)))
abbrev uH : List Ob := oO (.bl false) []
abbrev aeC : List Ob := oO (.o2 .lt q8 (.o1 .ab nS)) (oO (.o2 .le aw q8) (oO (.o2 .lt q8 (.v 7714)) (oO (.o2 .le aw q8) (oO (.o2 .le qF eZ) Xp))))
abbrev Zf : List Ob := oO (.o2 .lt eZ (.o1 .ab nS)) (oO (.o2 .le aw eZ) (oO (.o2 .lt eZ (.v 7714)) (oO (.o2 .le aw eZ) aeC)))
def upL : List (aa × List Ob) :=
 [(fT (.o2 .aN eZ q8) [], oO (.o2 .le eZ yB) (oO (.o2 .le qF eZ) (oO (.o2 .le Ze yB) Xp))),
  (fT (.o2 .lt (.v 7714) q8) acE, oO (.o2 .le eZ yB) (oO (.o2 .le qF eZ) (oO (.o2 .le Ze yB) ad1))),
  (fT (.o2 .lt (.v 7714) eZ) acP, oO (.o2 .le eZ yB) Xp),
  (fT (.o2 .le aw Vz) abd, oO (.o2 .lt (.v 2200) (.uf 284 XL)) (oO (.o2 .le aw KN) (oO (.o2 .le aw KN) (oO (.o2 .le aw KN) (oO (.o2 .lt q8 (.o1 .ab nS)) (oO (.o2 .le aw q8) (oO (.o2 .lt q8 (.v 7714)) (oO (.o2 .le aw q8) (oO (.o2 .le aw LJ) (oO (.o2 .le aw LJ) (oO (.o2 .le aw LJ) (oO (.o2 .lt eZ (.o1 .ab nS)) (oO (.o2 .le aw eZ) (oO (.o2 .lt eZ (.v 7714)) (oO (.o2 .le aw eZ) (oO (.o2 .lt q8 (.o1 .ab nS)) (oO (.o2 .lt q8 (.o1 .ab nS)) (oO (.o2 .le aw q8) (oO (.o2 .lt q8 (.v 7714)) (oO (.o2 .le aw q8) (oO (.o2 .lt eZ (.o1 .ab nS)) (oO (.o2 .lt eZ (.o1 .ab nS)) (oO (.o2 .le aw eZ) (oO (.o2 .lt eZ (.v 7714)) (oO (.o2 .le aw eZ) (oO (.o2 .lt eZ (.o1 .ab nS)) (oO (.o2 .le aw eZ) (oO (.o2 .lt eZ (.v 7714)) (oO (.o2 .le aw eZ) (oO (.o2 .lt q8 (.o1 .ab nS)) (oO (.o2 .le aw q8) (oO (.o2 .lt q8 (.v 7714)) (oO (.o2 .le aw q8) (oO (.o1 .not (eC 6 xC aw)) (oO (.o1 .not (eC 6 wL aw)) (oO (.uf 110 (eP (eC 0 xC aw) (eP (eC 1 xC aw) (eP (eC 4 xC aw) aw)))) (oO (.uf 110 (eP (eC 0 wL aw) (eP (eC 1 wL aw) (eP (eC 4 wL aw) aw)))) (oO (.o2 .le aw (eC 1 xp BD)) (oO (.o2 .le aw (eC 1 xp BD)) (oO (.o2 .le aw (eC 1 xp BD)) (oO (.o2 .le aw (eC 1 xp Af)) (oO (.o2 .le aw (eC 1 xp Af)) (oO (.o2 .le aw (eC 1 xp Af)) (oO (.o2 .lt eZ (.o1 .ab nS)) (oO (.o2 .le aw eZ) (oO (.o2 .lt eZ (.v 7714)) (oO (.o2 .le aw eZ) (oO (.o2 .lt q8 (.o1 .ab nS)) (oO (.o2 .le aw q8) (oO (.o2 .lt q8 (.v 7714)) (oO (.o2 .le aw q8) (oO (.o2 .le qF eZ) (oO (.o2 .le qF Ze) (oO (.o2 .aN eZ (.uf 283 Ve)) (oT (.o2 .fy adK (eP KN (eP (eC 0 adK KN) (eP q8 aw)))) (.uf 282 Ve) (oT XK (.uf 281 Ve) [])))))))))))))))))))))))))))))))))))))))))))))))))))))))),
  (fF (.o2 .le aw Vz) abd, uH),
  (fF (.o2 .le aw UG) (fT W1 US), uH),
  (fF W1 US, oO (.o1 .not (eC 6 xC aw)) (oO (.o1 .not (eC 6 wL aw)) (oO (.uf 110 (eP (eC 0 xC aw) (eP (eC 1 xC aw) (eP (eC 4 xC aw) aw)))) (oO (.uf 110 (eP (eC 0 wL aw) (eP (eC 1 wL aw) (eP (eC 4 wL aw) aw)))) (oO (.o2 .le aw (eC 1 xp BD)) (oO (.o2 .le aw (eC 1 xp BD)) (oO (.o2 .le aw (eC 1 xp BD)) (oO (.o2 .le aw (eC 1 xp Af)) (oO (.o2 .le aw (eC 1 xp Af)) (oO (.o2 .le aw (eC 1 xp Af)) Zf)))))))))),
  (fF (.o2 .le aw BD) abm, Zf),
  (fF (.o2 .le aw Af) aea, aeC)]
abbrev bu : E := .v 7721
abbrev Wy : E := eP (.v 7720) (eP bu (eP (.v 7722) (eP (.v 7723) (eP (.v 7724) (eP (.v 2201) aw)))))
abbrev bc : E := .uf 293 Wy
abbrev Fe : E := .o2 .mul (.il 2) bc
abbrev cK : E := .o2 .add Fe (.il 1)
abbrev FD : E := eP (.v 7720) (eP bu (eP (.v 7722) (eP (.v 7723) (eP (.v 7724) aw))))
abbrev Cf : E := .uf 292 Wy
abbrev cp : E := .uf 291 Wy
abbrev acs : List Ob := oO (.o2 .aN bc (.uf 297 FD)) (oT Cf (.uf 296 FD) (oT cp (.uf 295 FD) []))
abbrev YI : List Ob := oO (.o2 .le qF Fe) acs
abbrev J8 : List Ob := oO (.o2 .le Fe yB) YI
abbrev acD : aa := fF (.o2 .le (.v 7724) cK) []
abbrev cf : E := .v 7725
abbrev cT : E := .o2 .add Fe (.il 2)
abbrev aec : aa := fF (.o2 .lt cK aw) acD
abbrev aca : aa := fT (.o2 .lt cT (.v 7724)) aec
abbrev ab5 : aa := fT (.o2 .lt cf cT) aca
abbrev ZB : aa := fF (.o2 .lt cf cK) ab5
abbrev Wg : List Ob := oO (.o2 .le Fe yB) acs
abbrev ZM : E := eP (eC 0 cp bc) aw
abbrev XE : E := .o2 .fy (.o2 .fy cp (eP bc (eP (eC 0 cp cK) aw))) (eP cK ZM)
abbrev An : E := .o2 (.mf .s) bu (eC 0 XE cK)
abbrev AW : E := .o2 (.mf .s) bu (eC 0 XE bc)
abbrev eW : E := .o2 (.mf .s) bu (eC 0 cp cK)
abbrev dX : E := eC 0 Cf (eC 1 bu eW)
abbrev aao : E := .uf 100 (eP (eC 0 dX aw) (eP (eC 1 dX aw) aw))
abbrev fI : E := .o2 (.mf .s) bu (eC 0 cp bc)
abbrev fE : E := eC 0 Cf (eC 1 bu fI)
abbrev ace : E := eP (eC 5 fE aw) (eP (.uf 100 (eP (eC 0 fE aw) (eP (eC 1 fE aw) aw))) aw)
abbrev uO : E := .uf 280 (eP (eC 5 dX aw) (eP aao ace))
abbrev ack : aa := fF (.o2 .lt cf bc) ZB
abbrev aaR : aa := fT (.o2 .le aw eW) ack
abbrev Uu : aa := fT (.o2 .le aw fI) aaR
abbrev aeY : aa := fT (.o2 .le aw AW) (fT uO Uu)
abbrev wy : E := eC 1 bu An
abbrev wi : E := eC 1 bu AW
abbrev H9 : E := eP (.v 7720) (eP bu (eP (.v 7722) (eP (.v 7723) (eP (.v 7724) (eP (.o2 .add (.v 2201) (.il 1)) aw)))))
abbrev aaZ : E := .o2 .fy Cf (eP wi (eP (eC 0 Cf wi) (eP bc aw)))
abbrev aal : List Ob := oO (.o2 .le qF Fe) (oO (.o2 .aN cK (.uf 293 H9)) (oT (.o2 .fy aaZ (eP wy (eP (eC 0 aaZ wy) (eP cK aw)))) (.uf 292 H9) (oT XE (.uf 291 H9) [])))
abbrev Zg : List Ob := oO (.o2 .lt (.v 2201) (.uf 294 FD)) (oO (.o2 .le aw wy) (oO (.o2 .le aw wy) (oO (.o2 .le aw wy) (oO (.o2 .lt cK (.o1 .ab cp)) (oO (.o2 .lt cK cf) (oO (.o2 .le aw wi) (oO (.o2 .le aw wi) (oO (.o2 .le aw wi) (oO (.o2 .lt bc (.o1 .ab cp)) (oO (.o2 .le aw bc) (oO (.o2 .lt bc cf) (oO (.o2 .le aw bc) (oO (.o2 .lt cK (.o1 .ab cp)) (oO (.o2 .lt cK (.o1 .ab cp)) (oO (.o2 .lt cK cf) (oO (.o2 .lt bc (.o1 .ab cp)) (oO (.o2 .lt bc (.o1 .ab cp)) (oO (.o2 .le aw bc) (oO (.o2 .lt bc cf) (oO (.o2 .le aw bc) (oO (.o2 .lt bc (.o1 .ab cp)) (oO (.o2 .le aw bc) (oO (.o2 .lt bc cf) (oO (.o2 .le aw bc) (oO (.o2 .lt cK (.o1 .ab cp)) (oO (.o2 .lt cK cf) (oO (.o1 .not (eC 6 fE aw)) (oO (.o1 .not (eC 6 dX aw)) (oO (.uf 110 (eP (eC 0 fE aw) (eP (eC 1 fE aw) (eP (eC 4 fE aw) aw)))) (oO (.uf 110 (eP (eC 0 dX aw) (eP (eC 1 dX aw) (eP (eC 4 dX aw) aw)))) (oO (.o2 .le aw (eC 1 bu fI)) (oO (.o2 .le aw (eC 1 bu fI)) (oO (.o2 .le aw (eC 1 bu fI)) (oO (.o2 .le aw (eC 1 bu eW)) (oO (.o2 .le aw (eC 1 bu eW)) (oO (.o2 .le aw (eC 1 bu eW)) (oO (.o2 .lt bc (.o1 .ab cp)) (oO (.o2 .le aw bc) (oO (.o2 .lt bc cf) (oO (.o2 .le aw bc) (oO (.o2 .lt cK (.o1 .ab cp)) (oO (.o2 .lt cK cf) aal))))))))))))))))))))))))))))))))))))))))))
abbrev W9 : List Ob := oO (.o2 .lt cK (.o1 .ab cp)) (oO (.o2 .lt cK cf) YI)
abbrev YH : List Ob := oO (.o2 .lt bc (.o1 .ab cp)) (oO (.o2 .le aw bc) (oO (.o2 .lt bc cf) (oO (.o2 .le aw bc) W9)))
abbrev aeZ : List Ob := oO (.o1 .not (eC 6 fE aw)) (oO (.o1 .not (eC 6 dX aw)) (oO (.uf 110 (eP (eC 0 fE aw) (eP (eC 1 fE aw) (eP (eC 4 fE aw) aw)))) (oO (.uf 110 (eP (eC 0 dX aw) (eP (eC 1 dX aw) (eP (eC 4 dX aw) aw)))) (oO (.o2 .le aw (eC 1 bu fI)) (oO (.o2 .le aw (eC 1 bu fI)) (oO (.o2 .le aw (eC 1 bu fI)) (oO (.o2 .le aw (eC 1 bu eW)) (oO (.o2 .le aw (eC 1 bu eW)) (oO (.o2 .le aw (eC 1 bu eW)) YH)))))))))
abbrev Zt : aa := fF (.o2 .lt cf cT) aca
abbrev l3 : E := .o2 (.mf .s) bu (eC 0 cp cT)
abbrev iH : E := eC 0 Cf (eC 1 bu l3)
abbrev ZT : E := .uf 100 (eP (eC 0 iH aw) (eP (eC 1 iH aw) aw))
abbrev Om : E := .uf 280 (eP (eC 5 iH aw) (eP ZT (eP (eC 5 dX aw) (eP aao aw))))
abbrev aaY : aa := fF (.o2 .lt cf cK) Zt
abbrev adO : aa := fT (.o2 .le aw l3) aaY
abbrev QE : aa := fT (.o2 .le aw eW) adO
abbrev aeq : List Ob := oO (.o2 .lt cT (.o1 .ab cp)) (oO (.o2 .le aw cT) (oO (.o2 .lt cT cf) (oO (.o2 .le aw cT) (oO (.o2 .le qF cT) Wg))))
abbrev acq : List Ob := oO (.o2 .lt cK (.o1 .ab cp)) (oO (.o2 .lt cK cf) aeq)
abbrev aeV : List Ob := oO (.o1 .not (eC 6 dX aw)) (oO (.o1 .not (eC 6 iH aw)) (oO (.uf 110 (eP (eC 0 dX aw) (eP (eC 1 dX aw) (eP (eC 4 dX aw) aw)))) (oO (.uf 110 (eP (eC 0 iH aw) (eP (eC 1 iH aw) (eP (eC 4 iH aw) aw)))) (oO (.o2 .le aw (eC 1 bu eW)) (oO (.o2 .le aw (eC 1 bu eW)) (oO (.o2 .le aw (eC 1 bu eW)) (oO (.o2 .le aw (eC 1 bu l3)) (oO (.o2 .le aw (eC 1 bu l3)) (oO (.o2 .le aw (eC 1 bu l3)) acq)))))))))
abbrev WX : E := .o2 .fy (.o2 .fy cp (eP bc (eP (eC 0 cp cT) aw))) (eP cT ZM)
abbrev VR : E := .o2 (.mf .s) bu (eC 0 WX cT)
abbrev Yo : E := .o2 (.mf .s) bu (eC 0 WX bc)
abbrev Xg : E := .uf 280 (eP (eC 5 iH aw) (eP ZT ace))
abbrev Zh : aa := fF (.o2 .lt cf bc) (fT Om QE)
abbrev WV : aa := fT (.o2 .le aw fI) Zh
abbrev aa9 : aa := fT (.o2 .le aw Yo) (fT Xg WV)
abbrev C8 : E := eC 1 bu VR
abbrev CY : E := eC 1 bu Yo
abbrev St : E := .o2 .fy Cf (eP CY (eP (eC 0 Cf CY) (eP bc aw)))
abbrev GV : List Ob := oO (.o2 .lt cK (.o1 .ab cp)) (oO (.o2 .lt cK cf) (oO (.o2 .lt cT (.o1 .ab cp)) (oO (.o2 .le aw cT) (oO (.o2 .lt cT cf) (oO (.o2 .le aw cT) (oO (.o2 .le qF cT) YI))))))
abbrev S9 : List Ob := oO (.o1 .not (eC 6 dX aw)) (oO (.o1 .not (eC 6 iH aw)) (oO (.uf 110 (eP (eC 0 dX aw) (eP (eC 1 dX aw) (eP (eC 4 dX aw) aw)))) (oO (.uf 110 (eP (eC 0 iH aw) (eP (eC 1 iH aw) (eP (eC 4 iH aw) aw)))) (oO (.o2 .le aw (eC 1 bu eW)) (oO (.o2 .le aw (eC 1 bu eW)) (oO (.o2 .le aw (eC 1 bu eW)) (oO (.o2 .le aw (eC 1 bu l3)) (oO (.o2 .le aw (eC 1 bu l3)) (oO (.o2 .le aw (eC 1 bu l3)) GV)))))))))
abbrev TO : List Ob := oO (.o2 .lt bc (.o1 .ab cp)) (oO (.o2 .le aw bc) (oO (.o2 .lt bc cf) (oO (.o2 .le aw bc) (oO (.o2 .lt cT (.o1 .ab cp)) (oO (.o2 .le aw cT) (oO (.o2 .lt cT cf) (oO (.o2 .le aw cT) S9)))))))
abbrev SO : aa := fF (.o2 .lt cf bc) (fF Om QE)
abbrev MS : aa := fT (.o2 .le aw fI) SO
abbrev SM : aa := fT (.o2 .le aw AW) (fT uO MS)
abbrev TR : List Ob := oO (.o2 .lt cK (.o1 .ab cp)) (oO (.o2 .lt cK cf) (oO (.o2 .lt cT (.o1 .ab cp)) (oO (.o2 .le aw cT) (oO (.o2 .lt cT cf) (oO (.o2 .le aw cT) (oO (.o2 .le qF cT) aal))))))
abbrev Ty : List Ob := oO (.o2 .lt bc (.o1 .ab cp)) (oO (.o2 .le aw bc) (oO (.o2 .lt bc cf) (oO (.o2 .le aw bc) (oO (.o2 .lt cK (.o1 .ab cp)) (oO (.o2 .lt cK cf) S9)))))
abbrev R9 : aa := fF (.o2 .le aw eW) adO
abbrev TJ : aa := fF (.o2 .le aw l3) aaY
abbrev Sl : aa := fF (.o2 .lt cf bc) TJ
abbrev Tc : aa := fT (.o2 .le aw eW) Sl
abbrev Mt : aa := fT (.o2 .le aw fI) Tc
abbrev Sj : aa := fT (.o2 .le aw AW) (fT uO Mt)
abbrev Si : List Ob := oO (.o2 .lt bc (.o1 .ab cp)) (oO (.o2 .le aw bc) (oO (.o2 .lt bc cf) (oO (.o2 .le aw bc) GV)))
abbrev TF : aa := fF (.o2 .lt cT (.v 7724)) aec
abbrev TD : aa := fF (.o2 .lt cf cK) TF
abbrev SZ : aa := fF (.o2 .lt cf bc) TD
abbrev Tb : aa := fT (.o2 .le aw eW) SZ
abbrev Mc : aa := fT (.o2 .le aw fI) Tb
abbrev S0 : aa := fT (.o2 .le aw AW) (fT uO Mc)
def dnL : List (aa × List Ob) :=
 [(fT (.o2 .le (.v 7724) cK) [], oO (.o2 .le cK yB) J8),
  (fT (.o2 .lt cK aw) acD, oO (.o2 .le qF cK) J8),
  (fT (.o2 .lt cf cK) ab5, J8),
  (fT (.o2 .lt cf bc) ZB, Wg),
  (fT (.o2 .le aw An) aeY, Zg),
  (fF (.o2 .le aw An) aeY, uH),
  (fF (.o2 .le aw AW) (fT uO Uu), uH),
  (fF uO Uu, aeZ),
  (fF (.o2 .le aw fI) aaR, YH),
  (fF (.o2 .le aw eW) ack, W9),
  (fT (.o2 .lt cf cK) Zt, oO (.o2 .le qF cT) J8),
  (fT (.o2 .lt cf bc) (fT Om QE), aeV),
  (fT (.o2 .le aw VR) aa9, oO (.o2 .lt (.v 2201) (.uf 294 FD)) (oO (.o2 .le aw C8) (oO (.o2 .le aw C8) (oO (.o2 .le aw C8) (oO (.o2 .lt cT (.o1 .ab cp)) (oO (.o2 .le aw cT) (oO (.o2 .lt cT cf) (oO (.o2 .le aw cT) (oO (.o2 .le aw CY) (oO (.o2 .le aw CY) (oO (.o2 .le aw CY) (oO (.o2 .lt bc (.o1 .ab cp)) (oO (.o2 .le aw bc) (oO (.o2 .lt bc cf) (oO (.o2 .le aw bc) (oO (.o2 .lt cT (.o1 .ab cp)) (oO (.o2 .lt cT (.o1 .ab cp)) (oO (.o2 .le aw cT) (oO (.o2 .lt cT cf) (oO (.o2 .le aw cT) (oO (.o2 .lt bc (.o1 .ab cp)) (oO (.o2 .lt bc (.o1 .ab cp)) (oO (.o2 .le aw bc) (oO (.o2 .lt bc cf) (oO (.o2 .le aw bc) (oO (.o2 .lt bc (.o1 .ab cp)) (oO (.o2 .le aw bc) (oO (.o2 .lt bc cf) (oO (.o2 .le aw bc) (oO (.o2 .lt cT (.o1 .ab cp)) (oO (.o2 .le aw cT) (oO (.o2 .lt cT cf) (oO (.o2 .le aw cT) (oO (.o1 .not (eC 6 fE aw)) (oO (.o1 .not (eC 6 iH aw)) (oO (.uf 110 (eP (eC 0 fE aw) (eP (eC 1 fE aw) (eP (eC 4 fE aw) aw)))) (oO (.uf 110 (eP (eC 0 iH aw) (eP (eC 1 iH aw) (eP (eC 4 iH aw) aw)))) (oO (.o2 .le aw (eC 1 bu fI)) (oO (.o2 .le aw (eC 1 bu fI)) (oO (.o2 .le aw (eC 1 bu fI)) (oO (.o2 .le aw (eC 1 bu l3)) (oO (.o2 .le aw (eC 1 bu l3)) (oO (.o2 .le aw (eC 1 bu l3)) (oO (.o2 .lt bc (.o1 .ab cp)) (oO (.o2 .le aw bc) (oO (.o2 .lt bc cf) (oO (.o2 .le aw bc) (oO (.o2 .lt cT (.o1 .ab cp)) (oO (.o2 .le aw cT) (oO (.o2 .lt cT cf) (oO (.o2 .le aw cT) (oO (.o1 .not (eC 6 dX aw)) (oO (.o1 .not (eC 6 iH aw)) (oO (.uf 110 (eP (eC 0 dX aw) (eP (eC 1 dX aw) (eP (eC 4 dX aw) aw)))) (oO (.uf 110 (eP (eC 0 iH aw) (eP (eC 1 iH aw) (eP (eC 4 iH aw) aw)))) (oO (.o2 .le aw (eC 1 bu eW)) (oO (.o2 .le aw (eC 1 bu eW)) (oO (.o2 .le aw (eC 1 bu eW)) (oO (.o2 .le aw (eC 1 bu l3)) (oO (.o2 .le aw (eC 1 bu l3)) (oO (.o2 .le aw (eC 1 bu l3)) (oO (.o2 .lt cK (.o1 .ab cp)) (oO (.o2 .lt cK cf) (oO (.o2 .lt cT (.o1 .ab cp)) (oO (.o2 .le aw cT) (oO (.o2 .lt cT cf) (oO (.o2 .le aw cT) (oO (.o2 .le qF cT) (oO (.o2 .le qF Fe) (oO (.o2 .aN cT (.uf 293 H9)) (oT (.o2 .fy St (eP C8 (eP (eC 0 St C8) (eP cT aw)))) (.uf 292 H9) (oT WX (.uf 291 H9) [])))))))))))))))))))))))))))))))))))))))))))))))))))))))))))))))))))))))),
  (fF (.o2 .le aw VR) aa9, uH),
  (fF (.o2 .le aw Yo) (fT Xg WV), uH),
  (fF Xg WV, oO (.o1 .not (eC 6 fE aw)) (oO (.o1 .not (eC 6 iH aw)) (oO (.uf 110 (eP (eC 0 fE aw) (eP (eC 1 fE aw) (eP (eC 4 fE aw) aw)))) (oO (.uf 110 (eP (eC 0 iH aw) (eP (eC 1 iH aw) (eP (eC 4 iH aw) aw)))) (oO (.o2 .le aw (eC 1 bu fI)) (oO (.o2 .le aw (eC 1 bu fI)) (oO (.o2 .le aw (eC 1 bu fI)) (oO (.o2 .le aw (eC 1 bu l3)) (oO (.o2 .le aw (eC 1 bu l3)) (oO (.o2 .le aw (eC 1 bu l3)) TO)))))))))),
  (fF (.o2 .le aw fI) Zh, TO),
  (fT (.o2 .lt cf bc) (fF Om QE), aeV),
  (fT (.o2 .le aw An) SM, oO (.o2 .lt (.v 2201) (.uf 294 FD)) (oO (.o2 .le aw wy) (oO (.o2 .le aw wy) (oO (.o2 .le aw wy) (oO (.o2 .lt cK (.o1 .ab cp)) (oO (.o2 .lt cK cf) (oO (.o2 .le aw wi) (oO (.o2 .le aw wi) (oO (.o2 .le aw wi) (oO (.o2 .lt bc (.o1 .ab cp)) (oO (.o2 .le aw bc) (oO (.o2 .lt bc cf) (oO (.o2 .le aw bc) (oO (.o2 .lt cK (.o1 .ab cp)) (oO (.o2 .lt cK (.o1 .ab cp)) (oO (.o2 .lt cK cf) (oO (.o2 .lt bc (.o1 .ab cp)) (oO (.o2 .lt bc (.o1 .ab cp)) (oO (.o2 .le aw bc) (oO (.o2 .lt bc cf) (oO (.o2 .le aw bc) (oO (.o2 .lt bc (.o1 .ab cp)) (oO (.o2 .le aw bc) (oO (.o2 .lt bc cf) (oO (.o2 .le aw bc) (oO (.o2 .lt cK (.o1 .ab cp)) (oO (.o2 .lt cK cf) (oO (.o1 .not (eC 6 fE aw)) (oO (.o1 .not (eC 6 dX aw)) (oO (.uf 110 (eP (eC 0 fE aw) (eP (eC 1 fE aw) (eP (eC 4 fE aw) aw)))) (oO (.uf 110 (eP (eC 0 dX aw) (eP (eC 1 dX aw) (eP (eC 4 dX aw) aw)))) (oO (.o2 .le aw (eC 1 bu fI)) (oO (.o2 .le aw (eC 1 bu fI)) (oO (.o2 .le aw (eC 1 bu fI)) (oO (.o2 .le aw (eC 1 bu eW)) (oO (.o2 .le aw (eC 1 bu eW)) (oO (.o2 .le aw (eC 1 bu eW)) (oO (.o2 .lt bc (.o1 .ab cp)) (oO (.o2 .le aw bc) (oO (.o2 .lt bc cf) (oO (.o2 .le aw bc) (oO (.o2 .lt cK (.o1 .ab cp)) (oO (.o2 .lt cK cf) (oO (.o1 .not (eC 6 dX aw)) (oO (.o1 .not (eC 6 iH aw)) (oO (.uf 110 (eP (eC 0 dX aw) (eP (eC 1 dX aw) (eP (eC 4 dX aw) aw)))) (oO (.uf 110 (eP (eC 0 iH aw) (eP (eC 1 iH aw) (eP (eC 4 iH aw) aw)))) (oO (.o2 .le aw (eC 1 bu eW)) (oO (.o2 .le aw (eC 1 bu eW)) (oO (.o2 .le aw (eC 1 bu eW)) (oO (.o2 .le aw (eC 1 bu l3)) (oO (.o2 .le aw (eC 1 bu l3)) (oO (.o2 .le aw (eC 1 bu l3)) TR))))))))))))))))))))))))))))))))))))))))))))))))))))),
  (fF (.o2 .le aw An) SM, uH),
  (fF (.o2 .le aw AW) (fT uO MS), uH),
  (fF uO MS, oO (.o1 .not (eC 6 fE aw)) (oO (.o1 .not (eC 6 dX aw)) (oO (.uf 110 (eP (eC 0 fE aw) (eP (eC 1 fE aw) (eP (eC 4 fE aw) aw)))) (oO (.uf 110 (eP (eC 0 dX aw) (eP (eC 1 dX aw) (eP (eC 4 dX aw) aw)))) (oO (.o2 .le aw (eC 1 bu fI)) (oO (.o2 .le aw (eC 1 bu fI)) (oO (.o2 .le aw (eC 1 bu fI)) (oO (.o2 .le aw (eC 1 bu eW)) (oO (.o2 .le aw (eC 1 bu eW)) (oO (.o2 .le aw (eC 1 bu eW)) Ty)))))))))),
  (fF (.o2 .le aw fI) SO, Ty),
  (fT (.o2 .lt cf bc) R9, acq),
  (fF (.o2 .lt cf bc) R9, oO (.o2 .lt cK (.o1 .ab cp)) (oO (.o2 .lt cK cf) GV)),
  (fT (.o2 .lt cf bc) TJ, aeq),
  (fT (.o2 .le aw An) Sj, oO (.o2 .lt (.v 2201) (.uf 294 FD)) (oO (.o2 .le aw wy) (oO (.o2 .le aw wy) (oO (.o2 .le aw wy) (oO (.o2 .lt cK (.o1 .ab cp)) (oO (.o2 .lt cK cf) (oO (.o2 .le aw wi) (oO (.o2 .le aw wi) (oO (.o2 .le aw wi) (oO (.o2 .lt bc (.o1 .ab cp)) (oO (.o2 .le aw bc) (oO (.o2 .lt bc cf) (oO (.o2 .le aw bc) (oO (.o2 .lt cK (.o1 .ab cp)) (oO (.o2 .lt cK (.o1 .ab cp)) (oO (.o2 .lt cK cf) (oO (.o2 .lt bc (.o1 .ab cp)) (oO (.o2 .lt bc (.o1 .ab cp)) (oO (.o2 .le aw bc) (oO (.o2 .lt bc cf) (oO (.o2 .le aw bc) (oO (.o2 .lt bc (.o1 .ab cp)) (oO (.o2 .le aw bc) (oO (.o2 .lt bc cf) (oO (.o2 .le aw bc) (oO (.o2 .lt cK (.o1 .ab cp)) (oO (.o2 .lt cK cf) (oO (.o1 .not (eC 6 fE aw)) (oO (.o1 .not (eC 6 dX aw)) (oO (.uf 110 (eP (eC 0 fE aw) (eP (eC 1 fE aw) (eP (eC 4 fE aw) aw)))) (oO (.uf 110 (eP (eC 0 dX aw) (eP (eC 1 dX aw) (eP (eC 4 dX aw) aw)))) (oO (.o2 .le aw (eC 1 bu fI)) (oO (.o2 .le aw (eC 1 bu fI)) (oO (.o2 .le aw (eC 1 bu fI)) (oO (.o2 .le aw (eC 1 bu eW)) (oO (.o2 .le aw (eC 1 bu eW)) (oO (.o2 .le aw (eC 1 bu eW)) (oO (.o2 .lt bc (.o1 .ab cp)) (oO (.o2 .le aw bc) (oO (.o2 .lt bc cf) (oO (.o2 .le aw bc) TR))))))))))))))))))))))))))))))))))))))))),
  (fF (.o2 .le aw An) Sj, uH),
  (fF (.o2 .le aw AW) (fT uO Mt), uH),
  (fF uO Mt, oO (.o1 .not (eC 6 fE aw)) (oO (.o1 .not (eC 6 dX aw)) (oO (.uf 110 (eP (eC 0 fE aw) (eP (eC 1 fE aw) (eP (eC 4 fE aw) aw)))) (oO (.uf 110 (eP (eC 0 dX aw) (eP (eC 1 dX aw) (eP (eC 4 dX aw) aw)))) (oO (.o2 .le aw (eC 1 bu fI)) (oO (.o2 .le aw (eC 1 bu fI)) (oO (.o2 .le aw (eC 1 bu fI)) (oO (.o2 .le aw (eC 1 bu eW)) (oO (.o2 .le aw (eC 1 bu eW)) (oO (.o2 .le aw (eC 1 bu eW)) Si)))))))))),
  (fF (.o2 .le aw fI) Tc, Si),
  (fF (.o2 .le aw eW) Sl, GV),
  (fT (.o2 .lt cf cK) TF, oO (.o2 .le cT yB) J8),
  (fT (.o2 .lt cf bc) TD, oO (.o2 .le cT yB) Wg),
  (fT (.o2 .le aw An) S0, Zg),
  (fF (.o2 .le aw An) S0, uH),
  (fF (.o2 .le aw AW) (fT uO Mc), uH),
  (fF uO Mc, aeZ),
  (fF (.o2 .le aw fI) Tb, YH),
  (fF (.o2 .le aw eW) SZ, W9)]
end Go.Proofs.YtdlppkhmmclipaaGreat.sxObj
namespace Go.Proofs.YtdlppkhmmclipaaGreat.sxObj
open Go.Sx Go.RowKit Go.Proofs.YtdlppkhmmclipaaGreat
set_option linter.unusedVariables false
set_option linter.unusedSimpArgs false
set_option maxRecDepth 100000
theorem aes {j : Nat} : ((j : Int) - 1).tdiv 2 = ((par j : Nat) : Int) := by
 unfold par; rcases Nat.eq_zero_or_pos j with h | h
 ·subst h; rfl
 ·rw [Int.tdiv_eq_ediv_of_nonneg (by omega)]
  omega
section
variable {B I A : Dv} {n j : Nat}
theorem aeb {r : Nat} (h : r <= CV B I A j) : (eh B I A j r).j + r <= j := up_down r fun s hs => by
 have h2 : s < stop (fun t => !oM I (eh B I A j t)) (j + 1) := Nat.lt_of_lt_of_le hs h; have h3 := bI h2; simp only [Bool.not_eq_false', oM, Bool.and_eq_true, decide_eq_true_eq] at h3; exact h3.1
theorem adH {r : Nat} (h : r <= CV B I A j) (hg : oM I (eh B I A j r) = true) : r < CV B I A j :=
 rS h (by have := aeb h; omega) (by rw [hg]; rfl)
theorem Xd {r : Nat} (h : r <= CV B I A j) (hg : oM I (eh B I A j r) = false) : CV B I A j = r :=
 HO h (.inl (by rw [hg]; rfl))
end
section
variable {o : Env}
theorem Wu {env : Env} {a b : E} : (E.o2 .quo a b).den env = .i ((a.den env).I.tdiv (b.den env).I) := id rfl
theorem Lp (hu : OU o) (hh : OH o) : bn o LG := by
 simp only [LG, af, au, and_true]
 and_intros
 all_goals intro h
 all_goals simp only [SS, implies_true, hh.all, hu.mr] at h ⊢
 ·unfold TZ; rw [if_pos h]
 ·unfold TZ; rw [if_neg h]
set_option maxHeartbeats 1000000 in
theorem V2 (hu : OU o) (hh : OH o) {r : Nat} (hr : o.v 2200 = .i r) (hent : (YV.aU 0).ay o) (hle : (r : Int) <= ((E.uf 284 (pk QP)).den o).I) : bn o upL := by
 simp only [YV, Nl, QP, cP, r9, aB, pk, List.foldr, SS, implies_true, hh.all, al] at hent hle; obtain ⟨hin, t1, t2, t3, t4, t5⟩ := hent; have hj : (o.v 7713).I.toNat < (o.v 7714).I.toNat := by omega
 have hle : r <= CV (o.v 7710) (o.v 7711) (o.v 7712) (o.v 7713).I.toNat := by omega
 have hi := aaG hin hj r; have hjl := Vq (B := o.v 7710) (I := o.v 7711) (A := o.v 7712) (j := (o.v 7713).I.toNat) r; have hgo := adH hle; have hof := Xd hle; have hS : eh (o.v 7710) (o.v 7711) (o.v 7712) (o.v 7713).I.toNat (r + 1) = swS (o.v 7711) (eh (o.v 7710) (o.v 7711) (o.v 7712) (o.v 7713).I.toNat r) (par (eh (o.v 7710) (o.v 7711) (o.v 7712) (o.v 7713).I.toNat r).j) (eh (o.v 7710) (o.v 7711) (o.v 7712) (o.v 7713).I.toNat r).j (par (eh (o.v 7710) (o.v 7711) (o.v 7712) (o.v 7713).I.toNat r).j) := rfl; simp only [upL, af, au, and_true]
 and_intros
 all_goals intro h
 all_goals simp only [SS, implies_true, hr, hh.all, hu.mr, hu.jq, al, Wu, YN, aes] at h ⊢
 all_goals try simp only [adw, acM, acS, acH, Y7, Sm, adl, Z2, S5] at h ⊢
 all_goals generalize hs : eh (o.v 7710) (o.v 7711) (o.v 7712) (o.v 7713).I.toNat r = s at *
 all_goals have hJ : s.j < (o.v 7714).I.toNat := by omega
 all_goals have hP : par s.j < (o.v 7714).I.toNat := Nat.lt_of_le_of_lt lg hJ
 all_goals have hn := hi.n
 all_goals have hi2 := ie hi hP hJ
 all_goals obtain ⟨oP1, oP2, oP3⟩ := hi.o _ hP
 all_goals obtain ⟨oJ1, oJ2, oJ3⟩ := hi.o _ hJ
 ·have h0 : s.j = 0 := by
    rcases Nat.eq_zero_or_pos s.j with q | q
    ·exact q
    ·have := MF q; omega
  rw [hof (by unfold oM; rw [h0]; rfl), hs]
  exact ⟨by omega, by omega, by omega, by omega, rfl, rfl⟩
 ·exact absurd h.1 (by omega)
 ·exact absurd h.1 (by omega)
 ·have h0 : 0 < s.j := by
    rcases Nat.eq_zero_or_pos s.j with q | q
    ·have h9 : par s.j = s.j := by rw [q]; rfl
     exact absurd (show ((par s.j : Nat) : Int) = (s.j : Nat) by omega) h.2.2.2.2.2.2.2
    ·exact q
  have hg := hgo (by unfold oM; rw [decide_eq_true h0, Bool.true_and]; exact h.2.2.1)
  repeat' refine And.intro ?_ ?_
  all_goals first
   | omega
   | with_reducible rfl
   | with_reducible exact hi.i _ hP
   | with_reducible exact hi.i _ hJ
   | with_reducible exact hi2.i _ hP
   | with_reducible exact hi2.i _ hJ
   | with_reducible exact hi.b _ hP
   | with_reducible exact hi.b _ hJ
   | assumption
   | (rw [hS]; rfl)
 ·exact absurd (hi2.k _ hJ) h.1
 ·exact absurd (hi2.k _ hP) h.1
 ·rw [hof (by unfold oM; rw [show Wx (o.v 7711) s s.j (par s.j) = false from h.1, Bool.and_false]), hs]
  repeat' refine And.intro ?_ ?_
  all_goals first
   | omega
   | with_reducible rfl
   | with_reducible exact hi.i _ hP
   | with_reducible exact hi.i _ hJ
   | with_reducible exact hi2.i _ hP
   | with_reducible exact hi2.i _ hJ
   | with_reducible exact hi.b _ hP
   | with_reducible exact hi.b _ hJ
   | assumption
   | (rw [hS]; rfl)
 ·exact absurd (hi.k _ hP) h.1
 ·exact absurd (hi.k _ hJ) h.1
theorem tn1 {j : Nat} : (2 * (j : Int) + 1).toNat = 2 * j + 1 := by omega
theorem tn2 {j : Nat} : (2 * (j : Int) + 2).toNat = 2 * j + 2 := by omega
set_option maxHeartbeats 4000000 in
theorem Uy (hu : OU o) (hh : OH o) {r : Nat} (hr : o.v 2201 = .i r) (hent : (YY.aU 0).ay o) (hle : (r : Int) <= ((E.uf 294 (pk NW)).den o).I) : bn o dnL := by
 simp only [YY, Nb, NW, cP, r9, aB, pk, List.foldr, SS, implies_true, hh.all, al] at hent hle; obtain ⟨hin, t1, t2, t3, t4, t5, t6, t7⟩ := hent; have hle : r <= xv (o.v 7720) (o.v 7721) (o.v 7722) (o.v 7724).I.toNat (o.v 7723).I.toNat := by omega
 have hi := abH hin (by omega) r hle
 have hjl := af3 r hle; have hgo := adJ hle; have hof := YB hle; have hS : dI (o.v 7720) (o.v 7721) (o.v 7722) (o.v 7724).I.toNat (o.v 7723).I.toNat (r + 1) = swS (o.v 7721) (dI (o.v 7720) (o.v 7721) (o.v 7722) (o.v 7724).I.toNat (o.v 7723).I.toNat r) (dI (o.v 7720) (o.v 7721) (o.v 7722) (o.v 7724).I.toNat (o.v 7723).I.toNat r).j (gV (o.v 7721) (dI (o.v 7720) (o.v 7721) (o.v 7722) (o.v 7724).I.toNat (o.v 7723).I.toNat r) (o.v 7724).I.toNat) (gV (o.v 7721) (dI (o.v 7720) (o.v 7721) (o.v 7722) (o.v 7724).I.toNat (o.v 7723).I.toNat r) (o.v 7724).I.toNat) := rfl; simp only [dnL, af, au, and_true]
 and_intros
 all_goals intro h
 all_goals simp only [SS, implies_true, hr, hh.all, hu.mr, hu.jq, al, tn1, tn2] at h ⊢
 all_goals try simp only [adw, acM, acS, acH, Y7, Sm, adl, Z2, S5] at h ⊢
 all_goals generalize hs : dI (o.v 7720) (o.v 7721) (o.v 7722) (o.v 7724).I.toNat (o.v 7723).I.toNat r = s at *
 all_goals have hn := hi.n
 all_goals (repeat (have b := h.1; replace h := h.2))
 all_goals first
  | (exfalso; omega)
  | (rw [hof (aab (by omega)), hs]
     exact ⟨by omega, by omega, by omega, rfl, rfl, rfl⟩)
  | exact absurd (hi.k s.j (by omega)) (by assumption)
  | exact absurd (hi.k (2 * s.j + 1) (by omega)) (by assumption)
  | exact absurd (hi.k (2 * s.j + 2) (by omega)) (by assumption)
  | (have hk := adn (I := o.v 7721) (m := (o.v 7724).I.toNat) (s := s) (by omega) (by assumption)
     first
      | (have hg := hof (tN hk (by omega) (by assumption))
         rw [hg, hs]; have hi2 := hi
         repeat' refine And.intro ?_ ?_
         all_goals first
          | omega
          | with_reducible rfl
          | with_reducible exact hi.i _ (by omega)
          | with_reducible exact hi2.i _ (by omega)
          | with_reducible exact hi.b _ (by omega)
          | (obtain ⟨q1, q2, q3⟩ := hi.o s.j (by omega); assumption)
          | (obtain ⟨q1, q2, q3⟩ := hi.o (2 * s.j + 1) (by omega); assumption)
          | (obtain ⟨q1, q2, q3⟩ := hi.o (2 * s.j + 2) (by omega); assumption)
          | (rw [hS, hk]; rfl))
      | (have hi2 := ie hi (i := s.j) (j := 2 * s.j + 2) (by omega) (by omega)
         exact absurd (hi2.k s.j (by omega)) (by assumption))
      | (have hi2 := ie hi (i := s.j) (j := 2 * s.j + 2) (by omega) (by omega)
         exact absurd (hi2.k (2 * s.j + 2) (by omega)) (by assumption))
      | (have hi2 := ie hi (i := s.j) (j := 2 * s.j + 1) (by omega) (by omega)
         exact absurd (hi2.k s.j (by omega)) (by assumption))
      | (have hi2 := ie hi (i := s.j) (j := 2 * s.j + 1) (by omega) (by omega)
         exact absurd (hi2.k (2 * s.j + 1) (by omega)) (by assumption))
      | (have hg := hgo (tN hk (by omega) (by assumption))
         have hi2 := ie hi (i := s.j) (j := gV (o.v 7721) s (o.v 7724).I.toNat) (by omega) (by omega)
         rw [hk] at hi2
         repeat' refine And.intro ?_ ?_
         all_goals first
          | omega
          | with_reducible rfl
          | with_reducible exact hi.i _ (by omega)
          | with_reducible exact hi2.i _ (by omega)
          | with_reducible exact hi.b _ (by omega)
          | (obtain ⟨q1, q2, q3⟩ := hi.o s.j (by omega); assumption)
          | (obtain ⟨q1, q2, q3⟩ := hi.o (2 * s.j + 1) (by omega); assumption)
          | (obtain ⟨q1, q2, q3⟩ := hi.o (2 * s.j + 2) (by omega); assumption)
          | (rw [hS, hk]; rfl)))
  | (have hk := ac4 (I := o.v 7721) (m := (o.v 7724).I.toNat) (s := s) (by assumption)
     first
      | (have hg := hof (tN hk (by omega) (by assumption))
         rw [hg, hs]; have hi2 := hi
         repeat' refine And.intro ?_ ?_
         all_goals first
          | omega
          | with_reducible rfl
          | with_reducible exact hi.i _ (by omega)
          | with_reducible exact hi2.i _ (by omega)
          | with_reducible exact hi.b _ (by omega)
          | (obtain ⟨q1, q2, q3⟩ := hi.o s.j (by omega); assumption)
          | (obtain ⟨q1, q2, q3⟩ := hi.o (2 * s.j + 1) (by omega); assumption)
          | (obtain ⟨q1, q2, q3⟩ := hi.o (2 * s.j + 2) (by omega); assumption)
          | (rw [hS, hk]; rfl))
      | (have hi2 := ie hi (i := s.j) (j := 2 * s.j + 2) (by omega) (by omega)
         exact absurd (hi2.k s.j (by omega)) (by assumption))
      | (have hi2 := ie hi (i := s.j) (j := 2 * s.j + 2) (by omega) (by omega)
         exact absurd (hi2.k (2 * s.j + 2) (by omega)) (by assumption))
      | (have hi2 := ie hi (i := s.j) (j := 2 * s.j + 1) (by omega) (by omega)
         exact absurd (hi2.k s.j (by omega)) (by assumption))
      | (have hi2 := ie hi (i := s.j) (j := 2 * s.j + 1) (by omega) (by omega)
         exact absurd (hi2.k (2 * s.j + 1) (by omega)) (by assumption))
      | (have hg := hgo (tN hk (by omega) (by assumption))
         have hi2 := ie hi (i := s.j) (j := gV (o.v 7721) s (o.v 7724).I.toNat) (by omega) (by omega)
         rw [hk] at hi2
         repeat' refine And.intro ?_ ?_
         all_goals first
          | omega
          | with_reducible rfl
          | with_reducible exact hi.i _ (by omega)
          | with_reducible exact hi2.i _ (by omega)
          | with_reducible exact hi.b _ (by omega)
          | (obtain ⟨q1, q2, q3⟩ := hi.o s.j (by omega); assumption)
          | (obtain ⟨q1, q2, q3⟩ := hi.o (2 * s.j + 1) (by omega); assumption)
          | (obtain ⟨q1, q2, q3⟩ := hi.o (2 * s.j + 2) (by omega); assumption)
          | (rw [hS, hk]; rfl)))
  | (have hk := Zc (I := o.v 7721) (m := (o.v 7724).I.toNat) (s := s) (by omega)
     first
      | (have hg := hof (tN hk (by omega) (by assumption))
         rw [hg, hs]; have hi2 := hi
         repeat' refine And.intro ?_ ?_
         all_goals first
          | omega
          | with_reducible rfl
          | with_reducible exact hi.i _ (by omega)
          | with_reducible exact hi2.i _ (by omega)
          | with_reducible exact hi.b _ (by omega)
          | (obtain ⟨q1, q2, q3⟩ := hi.o s.j (by omega); assumption)
          | (obtain ⟨q1, q2, q3⟩ := hi.o (2 * s.j + 1) (by omega); assumption)
          | (obtain ⟨q1, q2, q3⟩ := hi.o (2 * s.j + 2) (by omega); assumption)
          | (rw [hS, hk]; rfl))
      | (have hi2 := ie hi (i := s.j) (j := 2 * s.j + 2) (by omega) (by omega)
         exact absurd (hi2.k s.j (by omega)) (by assumption))
      | (have hi2 := ie hi (i := s.j) (j := 2 * s.j + 2) (by omega) (by omega)
         exact absurd (hi2.k (2 * s.j + 2) (by omega)) (by assumption))
      | (have hi2 := ie hi (i := s.j) (j := 2 * s.j + 1) (by omega) (by omega)
         exact absurd (hi2.k s.j (by omega)) (by assumption))
      | (have hi2 := ie hi (i := s.j) (j := 2 * s.j + 1) (by omega) (by omega)
         exact absurd (hi2.k (2 * s.j + 1) (by omega)) (by assumption))
      | (have hg := hgo (tN hk (by omega) (by assumption))
         have hi2 := ie hi (i := s.j) (j := gV (o.v 7721) s (o.v 7724).I.toNat) (by omega) (by omega)
         rw [hk] at hi2
         repeat' refine And.intro ?_ ?_
         all_goals first
          | omega
          | with_reducible rfl
          | with_reducible exact hi.i _ (by omega)
          | with_reducible exact hi2.i _ (by omega)
          | with_reducible exact hi.b _ (by omega)
          | (obtain ⟨q1, q2, q3⟩ := hi.o s.j (by omega); assumption)
          | (obtain ⟨q1, q2, q3⟩ := hi.o (2 * s.j + 1) (by omega); assumption)
          | (obtain ⟨q1, q2, q3⟩ := hi.o (2 * s.j + 2) (by omega); assumption)
          | (rw [hS, hk]; rfl)))
end
end Go.Proofs.YtdlppkhmmclipaaGreat.sxObj
namespace Go.Proofs.YtdlppkhmmclipaaGreat.sxObj
open Go.Sx
set_option linter.unusedVariables false
set_option maxRecDepth 100000
abbrev Se : E := .v 7770
abbrev Ax : E := eC 0 Se (.v 2206)
abbrev gW : E := .il 0
abbrev or3 : E := .o2 .lt (.v 2206) (.o1 .ab Se)
abbrev or4 : E := .uf 211 (eP Se gW)
abbrev or5 : E := .uf 212 (eP Se gW)
abbrev or6 : E := eP (.v 7771) (eP (.v 7772) (eP (.v 7773) (eP (.v 7774) (eP Se (eP (.v 2206) gW)))))
abbrev To : E := .uf 305 or6
abbrev or8 : E := eP (.v 7771) (eP (.v 7772) (eP (.v 7773) (eP (.v 7774) (eP Se (eP or5 gW)))))
abbrev Jn : E := .uf 302 or6
abbrev tH : E := .uf 304 or6
abbrev mb : E := .uf 303 or6
abbrev ZP : List Ob := oT To (.uf 305 or8) (oT Jn (.uf 302 or8) (oP tH (.uf 304 or8) (oO (.o2 .aN mb (.uf 303 or8)) [])))
abbrev Ph : E := .uf 100 (eP (eC 0 Ax gW) (eP (eC 1 Ax gW) gW))
abbrev qZ : E := eC 1 tH (.o2 (.mf .s) tH Ph)
abbrev E1 : E := .o2 .fy To (eP qZ (eP Ax (eP (eC 1 To qZ) gW)))
abbrev rQ : E := eC 1 E1 qZ
abbrev KZ : E := eP mb gW
abbrev XA : E := eP Jn (eP tH (eP E1 (eP rQ KZ)))
abbrev abG : E := .o2 .lt rQ (.uf 297 XA)
abbrev U5 : E := .o2 .le gW (.o2 (.mf .s) tH Ph)
abbrev Yy : aa := fF (eC 6 Ax gW) (fT or3 [])
abbrev Up : E := eP gW gW
abbrev JH : E := eP Jn (eP tH (eP E1 (eP rQ (eP mb Up))))
abbrev sr : E := .il 1000000
abbrev Ji : E := .uf 296 XA
abbrev yI : E := eP (.v 7771) (eP (.v 7772) (eP (.v 7773) (eP (.v 7774) (eP Se (eP (.o2 .add (.v 2206) (.il 1)) gW)))))
abbrev IF : E := .uf 295 XA
abbrev ZV : List Ob := oP tH (.uf 304 yI) (oO (.o2 .aN mb (.uf 303 yI)) [])
abbrev WJ : E := eP IF (eP tH (eP Ji (eP rQ Up)))
abbrev adS : E := eP IF (eP tH (eP Ji (eP rQ gW)))
abbrev OZ : E := .o2 .fR (.o2 .cJ Jn mb) (eP Ph gW)
abbrev Qh : E := .o2 (.mp .s) tH (eP Ph (eP (.o1 .ab To) gW))
abbrev N1 : E := .o2 .fR To (eP Ax KZ)
abbrev JZ : E := .o2 .add mb (.il 1)
abbrev Ep : E := .o2 .sub JZ (.il 1)
abbrev UN : E := eP OZ (eP Qh (eP N1 (eP Ep Up)))
abbrev ZW : E := eP OZ (eP Qh (eP N1 (eP Ep gW)))
def hbL : List (aa × List Ob) :=
 [(fT (eC 6 Ax gW) (fT or3 []), oO or4 (oO (.uf 110 (eP (eC 0 Ax gW) (eP (eC 1 Ax gW) (eP (eC 4 Ax gW) gW)))) (oT Ax (eC 0 Se or5) ZP))),
  (fT abG (fT U5 Yy), oO (.o2 .lt (.v 2206) or5) (oT Jn (.uf 291 JH) (oT E1 (.uf 292 JH) (oO (.o2 .aN rQ (.uf 293 JH)) (oO (.o2 .le (.o1 .ab To) sr) (oO (.o2 .le (.o1 .ab Jn) sr) (oO (.o2 .le mb sr) (oO (.o2 .le gW mb) (oO (.o2 .le rQ sr) (oO (.o2 .le gW rQ) (oO (.uf 287 (eP Jn (eP tH (eP E1 KZ)))) (oO (.o2 .le gW mb) (oO (.o2 .le gW qZ) (oO (.o2 .le gW qZ) (oO (.o2 .le gW qZ) (oO (.o2 .le gW qZ) (oO (.o2 .le gW qZ) (oO (.o2 .le gW qZ) (oO (.uf 110 (eP (eC 0 Ax gW) (eP (eC 1 Ax gW) (eP (eC 4 Ax gW) gW)))) (oT Ji (.uf 305 yI) (oT IF (.uf 302 yI) ZV))))))))))))))))))))),
  (fF abG (fT U5 Yy), oO (.o2 .lt (.v 2206) or5) (oT IF (.uf 281 WJ) (oT Ji (.uf 282 WJ) (oO (.o2 .aN rQ (.uf 283 WJ)) (oO (.o2 .le (.o1 .ab Ji) sr) (oO (.o2 .le (.o1 .ab IF) sr) (oO (.o2 .le mb sr) (oO (.o2 .lt rQ mb) (oO (.o2 .le gW rQ) (oO (.uf 287 (eP IF (eP tH (eP Ji KZ)))) (oT Jn (.uf 291 JH) (oT E1 (.uf 292 JH) (oO (.o2 .aN rQ (.uf 293 JH)) (oO (.o2 .le (.o1 .ab To) sr) (oO (.o2 .le (.o1 .ab Jn) sr) (oO (.o2 .le mb sr) (oO (.o2 .le gW mb) (oO (.o2 .le rQ sr) (oO (.o2 .le gW rQ) (oO (.uf 287 (eP Jn (eP tH (eP E1 KZ)))) (oO (.o2 .le gW mb) (oO (.o2 .le gW qZ) (oO (.o2 .le gW qZ) (oO (.o2 .le gW qZ) (oO (.o2 .le gW qZ) (oO (.o2 .le gW qZ) (oO (.o2 .le gW qZ) (oO (.uf 110 (eP (eC 0 Ax gW) (eP (eC 1 Ax gW) (eP (eC 4 Ax gW) gW)))) (oT (.uf 286 adS) (.uf 305 yI) (oT (.uf 285 adS) (.uf 302 yI) ZV)))))))))))))))))))))))))))))),
  (fF U5 Yy, oO (.o2 .lt (.v 2206) or5) (oT OZ (.uf 281 UN) (oO (.o2 .le mb (.o1 .ab Jn)) (oO (.o2 .le gW mb) (oT N1 (.uf 282 UN) (oO (.o2 .aN Ep (.uf 283 UN)) (oO (.o2 .le (.o2 .add (.o1 .ab To) (.il 1)) sr) (oO (.o2 .le (.o2 .add (.o1 .ab (.o2 .cJ Jn mb)) (.il 1)) sr) (oO (.o2 .le JZ sr) (oO (.o2 .lt Ep JZ) (oO (.o2 .le gW Ep) (oO (.uf 287 (eP OZ (eP Qh (eP N1 (eP JZ gW))))) (oO (.o2 .le Ep (.il 9223372036854775807)) (oO (.o2 .le (.il (-9223372036854775808)) Ep) (oO (.o2 .le gW JZ) (oO (.o2 .le mb (.il 2147483648)) (oO (.o2 .le mb (.o1 .ab Jn)) (oO (.o2 .le gW mb) (oO (.o2 .le gW mb) (oO (.uf 110 (eP (eC 0 Ax gW) (eP (eC 1 Ax gW) (eP (eC 4 Ax gW) gW)))) (oT (.uf 286 ZW) (.uf 305 yI) (oT (.uf 285 ZW) (.uf 302 yI) (oP Qh (.uf 304 yI) (oO (.o2 .aN JZ (.uf 303 yI)) [])))))))))))))))))))))))),
  (fF or3 [], oO (.o1 .not or4) ZP)]
end Go.Proofs.YtdlppkhmmclipaaGreat.sxObj
