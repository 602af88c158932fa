/-
  THE LAW FnHeap (proved): over every history of a heap, each answer is that of a list of objects from which the least one is popped. No conditions beside the law's own guards.
-/
import Derived.Test.YtdlppkhmmclipaaGreatSxHpC
import Derived.Test.YtdlppkhmmclipaaGreatSxHpB
import Derived.Test.YtdlppkhmmclipaaGreatSxHpA
import Derived.Test.YtdlppkhmmclipaaGreatSxMLoopH
import Derived.Test.YtdlppkhmmclipaaGreatRows
namespace Go.Proofs.YtdlppkhmmclipaaGreat.sxObj
open Go.Sx Go.RowKit Go.Proofs.YtdlppkhmmclipaaGreat
set_option linter.unusedVariables false
set_option linter.unusedSimpArgs false
set_option maxRecDepth 100000
theorem CP {a b c d e : Dv} : wX (O2.den .b9 a (O2.den .b9 b (O2.den .b9 c (O2.den .b9 d e)))) = ⟨a.T, b.I.toNat, c.T, d.T⟩ := id rfl
theorem BJ {h : HM} {k any : Dv} (hh : 0 <= aQ .s k h.I) : fu h k any = fi h k any := if_pos hh
theorem Gv {h : HM} {k any : Dv} (hh : ¬ 0 <= aQ .s k h.I) : fu h k any = jN h k any := if_neg hh
theorem Qd {env : Env} {q : KQ} {a b : E} : (E.o2 (.mp q) a b).den env = .t (jI q (a.den env).T (b.den env).row) := id rfl
theorem Xh {env : Env} {q : KQ} {a b : E} : (E.o2 (.md q) a b).den env = .t (nV q (a.den env).T (b.den env)) := id rfl
section
variable {H : HM} {I A : List Row} {k any L B' I' A' : Dv} {r m j : Nat}
theorem agn : Dv.s (jo (cc (row (cc (row L r) 0) 0) 0).S (cc (row (cc (row L r) 0) 0) 1).S) = de L r := id rfl
theorem oz : (cc (row (.t I) (aQ .s k I).toNat) 1).I = dN (.t I) k := id rfl
theorem ael : H.A.set (dN (.t H.I) k).toNat [any, cc (row (.t H.A) (dN (.t H.I) k).toNat) 1] = (bf H k any).A := id rfl
theorem aa4 : (cc (row (.t (bf H k any).A) (dN (.t H.I) k).toNat) 1).I = fX (bf H k any) k := id rfl
theorem P1 : dI B' I' A' m j 0 = ⟨B'.T, A'.T, j⟩ := id rfl
theorem PV : eh B' I' A' j 0 = ⟨B'.T, A'.T, j⟩ := id rfl
theorem tnn {n : Nat} : ((n : Int) + 1 - 1).toNat = n := by omega
theorem tni {n : Nat} : (n : Int) + 1 - 1 = n := by omega
theorem aaC : (dI (.t H.B) (.t H.I) (.t (bf H k any).A) m j (xv (.t H.B) (.t H.I) (.t (bf H k any).A) m j)).A = (cU (bf H k any) m j).A := id rfl
theorem Z1 : (dI (.t H.B) (.t H.I) (.t (bf H k any).A) m j (xv (.t H.B) (.t H.I) (.t (bf H k any).A) m j)).B = (cU (bf H k any) m j).B := id rfl
theorem abx : (dI (.t H.B) (.t H.I) (.t (bf H k any).A) m j (xv (.t H.B) (.t H.I) (.t (bf H k any).A) m j)).j = B7 (bf H k any) m j := id rfl
theorem aeJ : (eh (.t (cU (bf H k any) m j).B) (.t H.I) (.t (cU (bf H k any) m j).A) r (CV (.t (cU (bf H k any) m j).B) (.t H.I) (.t (cU (bf H k any) m j).A) r)).A = (p7 (cU (bf H k any) m j) r).A := id rfl
theorem aeP : (eh (.t (cU (bf H k any) m j).B) (.t H.I) (.t (cU (bf H k any) m j).A) r (CV (.t (cU (bf H k any) m j).B) (.t H.I) (.t (cU (bf H k any) m j).A) r)).B = (p7 (cU (bf H k any) m j) r).B := id rfl
theorem pU (c : eJ H) (hh : 0 <= aQ .s k H.I) (hc : jt any k) : eJ (bf H k any) := by
 obtain ⟨i, hi, hk, e⟩ := xk c hh; exact xu c hi e hk hc
theorem G0 (c : eJ H) (hh : 0 <= aQ .s k H.I) : 0 <= dN (.t H.I) k := by
 obtain ⟨i, hi, hk, e⟩ := xk c hh; rw [e]; exact c.dK.i i hi
end
section
variable {o : Env}
theorem XX (hu : OU o) (hv : OV o) (hh : OH o) (hj : OJ o) {r : Nat} (hr : o.v 2206 = .i r) (hent : (hbY.aU 0).ay o) (hle : (r : Int) <= ((E.uf 212 (pk [.v 7770])).den o).I) : bn o hbL := by
 simp only [hbY, MG, lY, cP, aB, pk, List.foldr, SS, implies_true, hv.IQ, hv.Pv, hj.hb, CP, al] at hent hle; obtain ⟨hok, hmx, hin, l20, n0, n1, b1, a1, i1⟩ := hent; have hle : r <= gN (qa (o.v 7770)) (o.v 7770).T.length := by omega
 have hgl : gN (qa (o.v 7770)) (o.v 7770).T.length <= (o.v 7770).T.length := j8
 have hq : ∀ j, j < r -> qa (o.v 7770) j := fun j h2 => by
  have h2 : j < stop (fun j => !dec (qa (o.v 7770) j)) (o.v 7770).T.length := Nat.lt_of_lt_of_le h2 hle; have h3 := bI h2; have h3 : dec (qa (o.v 7770) j) = true := by simpa using h3
  exact al.1 h3
 obtain ⟨v, g⟩ := TK hin hok r (by omega) hq
 have gn := g.n; have gb := g.b; have gi := g.i; have ga := g.a; simp only at gn gb gi ga; have hS : mo (o.v 7770) ⟨(o.v 7771).T, (o.v 7772).I.toNat, (o.v 7773).T, (o.v 7774).T⟩ (r + 1) = fu (mo (o.v 7770) ⟨(o.v 7771).T, (o.v 7772).I.toNat, (o.v 7773).T, (o.v 7774).T⟩ r) (de (o.v 7770) r) (cc (row (o.v 7770) r) 0) := rfl; simp only [hbL, af, au, and_true]
 and_intros
 all_goals intro h
 all_goals simp only [SS, implies_true, hr, hh.all, hu.mr, hu.jq, hv.Of, hv.IQ, hj.hb, CP, al, cD, Classical.not_not, Qd, P1, PV, tnn, tni] at h ⊢
 all_goals try simp only [agn, oz, ael, aa4, aaC, Z1, abx, aeJ, aeP] at h ⊢
 all_goals generalize hH : mo (o.v 7770) ⟨(o.v 7771).T, (o.v 7772).I.toNat, (o.v 7773).T, (o.v 7774).T⟩ r = H at *
 ·have hb : ¬ qa (o.v 7770) r := fun q => by
    have hq : (cc (jP (o.v 7770) r) 6).B = true := h.1; rw [q] at hq; cases hq
  have hg := afY hle (by omega) hb
  exact ⟨hY (r := r) (by omega) hb, hok r (by omega), by rw [hg], by rw [hg, hH], by rw [hg, hH], by rw [hg, hH], by rw [hg, hH]⟩
 ·obtain ⟨hx, hh2, hgd, hl⟩ := h; have hc : jt (cc (row (o.v 7770) r) 0) (de (o.v 7770) r) := ry hgd (hok r (by omega))
  have hg := uJ hle (by omega) (show qa (o.v 7770) r from hgd)
  have hset := pU v.c hh2 hc; have hnn := G0 v.c hh2; obtain ⟨_, _, _, _, _, _, j0, j1⟩ := oB v hh2 hc
  have e1 : mo (o.v 7770) ⟨(o.v 7771).T, (o.v 7772).I.toNat, (o.v 7773).T, (o.v 7774).T⟩ (r + 1) = cU (bf H (de (o.v 7770) r) (cc (row (o.v 7770) r) 0)) H.n (fX (bf H (de (o.v 7770) r) (cc (row (o.v 7770) r) 0)) (de (o.v 7770) r)).toNat := by
   rw [hS, BJ hh2]; unfold fi gC; rw [if_pos]; exact (Int.toNat_lt j0).2 hx
  obtain ⟨oo1, oo2, oo3⟩ := hok r (by omega)
  have hin2 := hset.dK; have hu2 := sK v hh2 hc; have ul : (bf H (de (o.v 7770) r) (cc (row (o.v 7770) r) 0)).A.length = H.A.length := List.length_set ..
  repeat' refine And.intro ?_ ?_
  all_goals first
   | omega
   | assumption
   | (rw [e1]; done)
   | (rw [e1]; rfl)
   | (rw [e1]; exact List.Perm.refl _)
   | exact oo1
   | exact oo2
   | exact oo3
   | rfl
 ·obtain ⟨hx, hh2, hgd, hl⟩ := h; have hc : jt (cc (row (o.v 7770) r) 0) (de (o.v 7770) r) := ry hgd (hok r (by omega))
  have hg := uJ hle (by omega) (show qa (o.v 7770) r from hgd)
  have hset := pU v.c hh2 hc; have hnn := G0 v.c hh2; obtain ⟨_, _, _, _, _, _, j0, j1⟩ := oB v hh2 hc
  have e1 : mo (o.v 7770) ⟨(o.v 7771).T, (o.v 7772).I.toNat, (o.v 7773).T, (o.v 7774).T⟩ (r + 1) = p7 (cU (bf H (de (o.v 7770) r) (cc (row (o.v 7770) r) 0)) H.n (fX (bf H (de (o.v 7770) r) (cc (row (o.v 7770) r) 0)) (de (o.v 7770) r)).toNat) (fX (bf H (de (o.v 7770) r) (cc (row (o.v 7770) r) 0)) (de (o.v 7770) r)).toNat := by
   rw [hS, BJ hh2]; unfold fi gC; rw [if_neg]; exact fun q => hx ((Int.toNat_lt j0).1 q)
  obtain ⟨oo1, oo2, oo3⟩ := hok r (by omega)
  have hin2 := hset.dK; have hu2 := sK v hh2 hc; have hin3 := hu2.c.dK; have ul : (bf H (de (o.v 7770) r) (cc (row (o.v 7770) r) 0)).A.length = H.A.length := List.length_set ..; have ul2 := hu2.l; have ub2 : (cU (bf H (de (o.v 7770) r) (cc (row (o.v 7770) r) 0)) H.n (fX (bf H (de (o.v 7770) r) (cc (row (o.v 7770) r) 0)) (de (o.v 7770) r)).toNat).B.length = H.B.length := hu2.b
  repeat' refine And.intro ?_ ?_
  all_goals first
   | omega
   | assumption
   | (rw [e1]; done)
   | (rw [e1]; rfl)
   | (rw [e1]; exact List.Perm.refl _)
   | exact oo1
   | exact oo2
   | exact oo3
   | rfl
 ·obtain ⟨hh2, hgd, hl⟩ := h; have hc : jt (cc (row (o.v 7770) r) 0) (de (o.v 7770) r) := ry hgd (hok r (by omega))
  have hg := uJ hle (by omega) (show qa (o.v 7770) r from hgd)
  have e1 : mo (o.v 7770) ⟨(o.v 7771).T, (o.v 7772).I.toNat, (o.v 7773).T, (o.v 7774).T⟩ (r + 1) = p7 (bV H (de (o.v 7770) r) (cc (row (o.v 7770) r) 0)) H.n := by
   rw [hS, Gv hh2]; rfl
  obtain ⟨oo1, oo2, oo3⟩ := hok r (by omega)
  have hin2 := (sh v.c hh2 hc).dK; have hbn := v.c.dK.n; have htk : (List.take H.n H.B).length <= H.n := by rw [List.length_take]; omega
  repeat' refine And.intro ?_ ?_
  all_goals first
   | omega
   | assumption
   | (rw [e1]; done)
   | (rw [e1]; rfl)
   | (rw [e1]; exact List.Perm.refl _)
   | exact oo1
   | exact oo2
   | exact oo3
   | rfl
 ·have hgg : gN (qa (o.v 7770)) (o.v 7770).T.length = r := by omega
  exact ⟨qw hle (by omega), by rw [hgg, hH], by rw [hgg, hH], by rw [hgg, hH], by rw [hgg, hH]⟩
end
end Go.Proofs.YtdlppkhmmclipaaGreat.sxObj
namespace Go.Proofs.YtdlppkhmmclipaaGreat.sxObj
open Go.Sx
set_option linter.unusedVariables false
set_option maxRecDepth 100000
abbrev kB : E := .v 7780
abbrev k7 : E := .v 2207
abbrev H6 : E := eC 7 kB k7
abbrev zm : E := eC 0 kB k7
abbrev os4 : E := .o2 .lt k7 (.o1 .ab kB)
abbrev os5 : aa := fT (.o2 .aN zm (.il 1)) (fT os4 [])
abbrev rp : E := eC 1 kB k7
abbrev rn : E := eC 2 kB k7
abbrev aq : E := .il 0
abbrev gf : E := .uf 315 (eP kB aq)
abbrev kF (x : E) : E := eC 0 gf x
abbrev nT (x : E) : E := eC 2 gf x
abbrev MV : E := eP kB (eP k7 aq)
abbrev my : E := .uf 313 MV
abbrev JA : E := eP kB (eP (.o2 .add k7 (.il 1)) aq)
abbrev sG : E := .uf 313 JA
abbrev j9 : E := .uf 310 MV
abbrev sL : E := .uf 310 JA
abbrev bT : E := .uf 312 MV
abbrev A4 : E := .uf 312 JA
abbrev aI : E := .uf 311 MV
abbrev Nc : E := .uf 311 JA
abbrev tM : E := .uf 314 MV
abbrev Qp : List Ob := oO (.o2 .beq tM (.uf 314 JA)) []
abbrev U7 : List Ob := oP bT A4 (oO (.o2 .aN aI Nc) Qp)
abbrev aed (x : E) : List Ob := oO (.o2 .seq (.sl []) (eC 4 gf x)) (oT aq (eC 5 gf x) (oT my sG (oT j9 sL U7)))
abbrev QG (x : E) : List Ob := oT aq (eC 3 gf x) (aed x)
abbrev MT (x : E) : List Ob := oO (.o2 .beq (.bl false) (eC 1 gf x)) (oT aq (nT x) (QG x))
abbrev Pw (x : E) : List Ob := oO (.uf 110 (eP rp (eP rn (eP (eC 5 kB k7) aq)))) (oO (.uf 110 (eP rp (eP rn (eP (eC 5 kB k7) aq)))) (oO (.o2 .aN (.il 1) (kF x)) (MT x)))
abbrev WY (x : E) : List Ob := oO (.o2 .aN (.il 5) (kF x)) (MT x)
abbrev adN (x : E) : List Ob := oO (.uf 110 (eP rp (eP rn (eP (eC 5 kB k7) aq)))) (oO (.uf 110 (eP rp (eP rn (eP (eC 5 kB k7) aq)))) (WY x))
abbrev Rv : E := .uf 100 (eP rp (eP rn aq))
abbrev fh : E := eC 1 bT (.o2 (.mf .s) bT Rv)
abbrev A2 : E := eP aq aq
abbrev abU : E := eP rp (eP rn (eP (eC 3 kB k7) (eP (eC 4 kB k7) (eP (eC 5 kB k7) (eP (eC 6 kB k7) (eP H6 (eP (eC 8 kB k7) A2)))))))
abbrev bH : E := eC 1 my fh
abbrev T6 : E := eP bH aq
abbrev Ft : E := .o2 .fy my (eP fh (eP abU T6))
abbrev rR : E := eC 1 Ft fh
abbrev qH : E := eP aI aq
abbrev WO : E := eP j9 (eP bT (eP Ft (eP rR qH)))
abbrev adM : E := .o2 .lt rR (.uf 297 WO)
abbrev A1 : E := .o2 .le aq (.o2 (.mf .s) bT Rv)
abbrev Yp : aa := fF tM (fF H6 os5)
abbrev IN : E := eP j9 (eP bT (eP Ft (eP rR (eP aI A2))))
abbrev r7 : E := .o1 .ab my
abbrev cw : E := .il 1000000
abbrev bJ : E := .o1 .ab j9
abbrev IT : E := .uf 296 WO
abbrev H8 : E := .uf 295 WO
abbrev Ua : E := eP H8 (eP bT (eP IT (eP rR A2)))
abbrev aaT : E := eP H8 (eP bT (eP IT (eP rR aq)))
abbrev RI : E := .o2 .fR (.o2 .cJ j9 aI) (eP Rv aq)
abbrev Qo : E := .o2 (.mp .s) bT (eP Rv (eP r7 aq))
abbrev RA : E := .o2 .fR my (eP abU qH)
abbrev Io : E := .o2 .add aI (.il 1)
abbrev Eg : E := .o2 .sub Io (.il 1)
abbrev Xj : E := eP RI (eP Qo (eP RA (eP Eg A2)))
abbrev ac7 : E := eP RI (eP Qo (eP RA (eP Eg aq)))
abbrev acT (x : E) : List Ob := oT RI (.uf 281 Xj) (oO (.o2 .le aI bJ) (oO (.o2 .le aq aI) (oT RA (.uf 282 Xj) (oO (.o2 .aN Eg (.uf 283 Xj)) (oO (.o2 .le (.o2 .add r7 (.il 1)) cw) (oO (.o2 .le (.o2 .add (.o1 .ab (.o2 .cJ j9 aI)) (.il 1)) cw) (oO (.o2 .le Io cw) (oO (.o2 .lt Eg Io) (oO (.o2 .le aq Eg) (oO (.uf 287 (eP RI (eP Qo (eP RA (eP Io aq))))) (oO (.o2 .le Eg (.il 9223372036854775807)) (oO (.o2 .le (.il (-9223372036854775808)) Eg) (oO (.o2 .le aq Io) (oO (.o2 .le aI (.il 2147483648)) (oO (.o2 .le aI bJ) (oO (.o2 .le aq aI) (oO (.o2 .le aq aI) (oO (.uf 110 (eP rp (eP rn (eP (eC 5 kB k7) aq)))) (oO (.uf 110 (eP rp (eP rn (eP (eC 5 kB k7) aq)))) (oO (.o2 .aN aq (kF x)) (oO (.o2 .beq (.bl false) (eC 1 gf x)) (oT aq (nT x) (oT aq (eC 3 gf x) (oO (.o2 .seq (.sl []) (eC 4 gf x)) (oT aq (eC 5 gf x) (oT (.uf 286 ac7) sG (oT (.uf 285 ac7) sL (oP Qo A4 (oO (.o2 .aN Io Nc) Qp)))))))))))))))))))))))))))))
abbrev adj : aa := fF (.o2 .aN zm (.il 1)) (fT os4 [])
abbrev YL : aa := fT (.o2 .aN zm (.il 2)) adj
abbrev PB : E := eP (eC 9 kB k7) aq
abbrev El : E := .uf 101 PB
abbrev Ms : E := eP El aq
abbrev CB : E := eP j9 (eP aI (eP bT (eP my (eP El A2))))
abbrev dA : E := .o1 .ab bT
abbrev U4 : E := eP bT (eP my aq)
abbrev ON : E := eP j9 (eP aI (eP bT (eP my (eP El (eP (.uf 212 Ms) aq)))))
abbrev adz (x : E) : List Ob := oO (.o2 .beq (.bl false) (eC 1 gf x)) (oT aq (nT x) (oT aq (eC 3 gf x) (oO (.o2 .seq (.sl []) (eC 4 gf x)) (oT aq (eC 5 gf x) (oT (.uf 305 ON) sG (oT (.uf 302 ON) sL (oP (.uf 304 ON) A4 (oO (.o2 .aN (.uf 303 ON) Nc) Qp))))))))
abbrev aa7 : aa := fF (.o2 .aN zm (.il 2)) adj
abbrev T9 : aa := fT (.o2 .aN zm (.il 3)) aa7
abbrev aeQ : aa := fF tM (fF H6 T9)
abbrev WT (x : E) : List Ob := oO (.o2 .aN aq (kF x)) (MT x)
abbrev adg (x : E) : List Ob := oO (.uf 110 (eP rp (eP rn (eP (eC 5 kB k7) aq)))) (oO (.uf 110 (eP rp (eP rn (eP (eC 5 kB k7) aq)))) (WT x))
abbrev abB : aa := fF (.o2 .aN zm (.il 3)) aa7
abbrev VU : aa := fT (.o2 .aN zm (.il 4)) abB
abbrev ai : E := .o2 .sub aI (.il 1)
abbrev F5 : E := eC 0 j9 ai
abbrev aem : E := .o2 .le aq (.o2 (.mf .s) bT F5)
abbrev Z9 : aa := fT A1 (fF H6 VU)
abbrev ab8 : aa := fT (.o2 .aN ai bH) Z9
abbrev Na : List Ob := oO (.o2 .aN ai Nc) Qp
abbrev Pb : List Ob := oP bT A4 Na
abbrev uT : E := .o2 .fy (.o2 .fy j9 (eP bH (eP F5 aq))) (eP ai (eP (eC 0 j9 bH) aq))
abbrev W6 : E := .o2 (.mf .s) bT (eC 0 uT bH)
abbrev rq : E := eC 1 bT W6
abbrev abo : E := .o2 .fy my (eP rq (eP (eC 0 my rq) T6))
abbrev UA : E := .o2 (.mf .s) bT (eC 0 uT ai)
abbrev rz : E := eC 1 bT UA
abbrev Rq : E := eP ai aq
abbrev yJ : E := .o2 .fy abo (eP rz (eP (eC 0 abo rz) Rq))
abbrev Wa : E := eP uT (eP bT (eP yJ (eP bH Rq)))
abbrev rX : E := .uf 295 Wa
abbrev Ly : E := .o2 (.mf .s) bT (eC 0 rX ai)
abbrev RN : E := .o2 .lt bH (.uf 297 Wa)
abbrev aeB : aa := fF (.o2 .aN ai bH) Z9
abbrev ado : aa := fT (.o2 .le aq W6) aeB
abbrev RO : aa := fT (.o2 .le aq UA) ado
abbrev uK : E := eP uT (eP bT (eP yJ (eP bH (eP ai A2))))
abbrev qn : E := .uf 296 Wa
abbrev wq : E := eP rX (eP bT (eP qn T6))
abbrev C3 : E := eC 0 (.uf 285 wq) ai
abbrev SX : E := .o2 .le aq (.o2 (.mf .s) bT C3)
abbrev yR : E := eP rX (eP bT (eP qn (eP bH A2)))
abbrev zX : List Ob := oO (.bl false) []
abbrev lN : E := eP bT aq
abbrev x9 : E := .uf 106 (eP (.uf 200 lN) aq)
abbrev gY : E := .o2 .cJ x9 dA
abbrev Hf : E := .o2 .aN (.o1 .ab gY) aq
abbrev Sh : aa := fF (.o2 .aN zm (.il 4)) abB
abbrev HX : aa := fT (.o2 .aN zm (.il 5)) Sh
abbrev Sd : aa := fT tM (fT Hf HX)
abbrev S8 (x : E) : List Ob := oO (.o2 .le dA (.o1 .ab x9)) (oO (.o2 .le dA (.il 4611686018427387903)) (oO (.o2 .aN dA (.o1 .ab (.uf 200 lN))) (oO (.uf 201 lN) (oO (.o2 .le dA cw) (oO (.o2 .le dA (.il 2147483648)) (oO (.o2 .le dA (.il 2147483648)) (WY x)))))))
abbrev nQ : E := .o2 .fy (.o2 .fy j9 (eP aq (eP F5 aq))) (eP ai (eP (eC 0 j9 aq) aq))
abbrev Cg : E := .o2 (.mf .s) bT (eC 0 nQ aq)
abbrev lx : E := eC 1 bT Cg
abbrev RY : E := .o2 .fy my (eP lx (eP (eC 0 my lx) A2))
abbrev Ce : E := .o2 (.mf .s) bT (eC 0 nQ ai)
abbrev lL : E := eC 1 bT Ce
abbrev qh : E := .o2 .fy RY (eP lL (eP (eC 0 RY lL) Rq))
abbrev qm : E := eP nQ (eP bT (eP qh (eP aq Rq)))
abbrev KP : E := eC 0 (.uf 295 qm) ai
abbrev HF : E := .o2 .le aq (.o2 (.mf .s) bT KP)
abbrev Sk : aa := fF (.o2 .aN aI aq) Sd
abbrev RQ : aa := fT (.o2 .le aq Cg) Sk
abbrev SI : aa := fT (.o2 .le aq Ce) RQ
abbrev xA : E := eC 1 bT (.o2 (.mf .s) bT KP)
abbrev lr : E := eC 0 (.uf 296 qm) xA
abbrev nJ : E := eP nQ (eP bT (eP qh (eP aq (eP ai A2))))
abbrev S7 (x : E) : List Ob := oO (.o2 .le dA (.o1 .ab x9)) (oO (.o2 .le dA (.il 4611686018427387903)) (oO (.o2 .aN dA (.o1 .ab (.uf 200 lN))) (oO (.uf 201 lN) (oO (.o2 .le dA cw) (oO (.o2 .le dA (.il 2147483648)) (oO (.o2 .le dA (.il 2147483648)) (oO (.o2 .aN aq (kF x)) (oO (.o2 .beq (.bl false) (eC 1 gf x)) (oT (eP (eC 0 lr aq) (eP (eC 1 lr aq) (eP (eC 2 lr aq) (eP (eC 3 lr aq) (eP (eC 4 lr aq) (eP (eC 5 lr aq) (eP (eC 6 lr aq) (eP (eC 7 lr aq) aq)))))))) (nT x) (oT aq (eC 3 gf x) (oO (.o2 .seq (.sl []) (eC 4 gf x)) (oT aq (eC 5 gf x) (oT (.uf 296 qm) sG (oT (.uf 295 qm) sL (oP (.o2 (.md .s) bT KP) A4 Na)))))))))))))))
abbrev SD (x : E) : List Ob := oO (.o2 .le dA (.o1 .ab x9)) (oO (.o2 .le dA (.il 4611686018427387903)) (oO (.o2 .aN dA (.o1 .ab (.uf 200 lN))) (oO (.uf 201 lN) (oO (.o2 .le dA cw) (oO (.o2 .le dA (.il 2147483648)) (oO (.o2 .le dA (.il 2147483648)) (oO (.o2 .aN (.il 5) (kF x)) (oO (.o2 .beq (.bl false) (eC 1 gf x)) (oT aq (nT x) (oT aq (eC 3 gf x) (oO (.o2 .seq (.sl []) (eC 4 gf x)) (oT aq (eC 5 gf x) (oT (.uf 296 qm) sG (oT (.uf 295 qm) sL Pb))))))))))))))
abbrev TC : aa := fF (.o2 .aN aI aq) (fF Hf HX)
abbrev Sv : aa := fT (.o2 .le aq Cg) TC
abbrev Sc : aa := fT (.o2 .le aq Ce) Sv
abbrev Te : aa := fF (.o2 .aN zm (.il 5)) Sh
abbrev Kt : E := .uf 300 (eP gY U4)
abbrev Sb : aa := fF (.o2 .aN zm (.il 6)) Te
abbrev S3 : aa := fF (.o2 .aN zm (.il 7)) Sb
abbrev Nt : aa := fT (.o2 .aN zm (.il 8)) S3
abbrev nX : E := eC 0 my fh
abbrev yS : E := .o2 (.mf .s) bT (eC 10 kB k7)
abbrev Ti : aa := fF (.o2 .aN zm (.il 8)) S3
abbrev SC : aa := fT (.o2 .aN zm (.il 10)) Ti
abbrev n6 : E := eC 0 my (eC 1 bT yS)
abbrev SK : aa := fF (.o2 .aN zm (.il 10)) Ti
def hmG (x : E) : List (aa × List Ob) :=
 [(fT H6 os5, Pw x),
  (fT tM (fF H6 os5), adN x),
  (fT adM (fT A1 Yp), oT j9 (.uf 291 IN) (oT Ft (.uf 292 IN) (oO (.o2 .aN rR (.uf 293 IN)) (oO (.o2 .le r7 cw) (oO (.o2 .le bJ cw) (oO (.o2 .le aI cw) (oO (.o2 .le aq aI) (oO (.o2 .le rR cw) (oO (.o2 .le aq rR) (oO (.uf 287 (eP j9 (eP bT (eP Ft qH)))) (oO (.o2 .le aq aI) (oO (.o2 .le aq fh) (oO (.o2 .le aq fh) (oO (.o2 .le aq fh) (oO (.o2 .le aq fh) (oO (.o2 .le aq fh) (oO (.o2 .le aq fh) (oO (.uf 110 (eP rp (eP rn (eP (eC 5 kB k7) aq)))) (oO (.uf 110 (eP rp (eP rn (eP (eC 5 kB k7) aq)))) (oO (.o2 .aN aq (kF x)) (oO (.o2 .beq (.bl false) (eC 1 gf x)) (oT aq (nT x) (oT aq (eC 3 gf x) (oO (.o2 .seq (.sl []) (eC 4 gf x)) (oT aq (eC 5 gf x) (oT IT sG (oT H8 sL U7))))))))))))))))))))))))))),
  (fF adM (fT A1 Yp), oT H8 (.uf 281 Ua) (oT IT (.uf 282 Ua) (oO (.o2 .aN rR (.uf 283 Ua)) (oO (.o2 .le (.o1 .ab IT) cw) (oO (.o2 .le (.o1 .ab H8) cw) (oO (.o2 .le aI cw) (oO (.o2 .lt rR aI) (oO (.o2 .le aq rR) (oO (.uf 287 (eP H8 (eP bT (eP IT qH)))) (oT j9 (.uf 291 IN) (oT Ft (.uf 292 IN) (oO (.o2 .aN rR (.uf 293 IN)) (oO (.o2 .le r7 cw) (oO (.o2 .le bJ cw) (oO (.o2 .le aI cw) (oO (.o2 .le aq aI) (oO (.o2 .le rR cw) (oO (.o2 .le aq rR) (oO (.uf 287 (eP j9 (eP bT (eP Ft qH)))) (oO (.o2 .le aq aI) (oO (.o2 .le aq fh) (oO (.o2 .le aq fh) (oO (.o2 .le aq fh) (oO (.o2 .le aq fh) (oO (.o2 .le aq fh) (oO (.o2 .le aq fh) (oO (.uf 110 (eP rp (eP rn (eP (eC 5 kB k7) aq)))) (oO (.uf 110 (eP rp (eP rn (eP (eC 5 kB k7) aq)))) (oO (.o2 .aN aq (kF x)) (oO (.o2 .beq (.bl false) (eC 1 gf x)) (oT aq (nT x) (oT aq (eC 3 gf x) (oO (.o2 .seq (.sl []) (eC 4 gf x)) (oT aq (eC 5 gf x) (oT (.uf 286 aaT) sG (oT (.uf 285 aaT) sL U7)))))))))))))))))))))))))))))))))))),
  (fF A1 Yp, acT x),
  (fT tM YL, oO (.o2 .le (.o1 .ab (eC 9 kB k7)) (.il 2147483647)) (oO (.uf 111 PB) (WY x))),
  (fT (.uf 211 Ms) (fF tM YL), oO (.o2 .aN aI (.uf 303 CB)) (oP bT (.uf 304 CB) (oT j9 (.uf 302 CB) (oT my (.uf 305 CB) (oO (.o2 .le dA (.il 500000)) (oO (.o2 .le r7 (.il 500000)) (oO (.o2 .le bJ (.il 500000)) (oO (.o2 .le aI (.il 500000)) (oO (.o2 .le aq aI) (oO (.o2 .le (.o1 .ab El) (.il 20)) (oO (.uf 308 (eP j9 (eP aI U4))) (oO (.o2 .le (.o1 .ab El) cw) (oO (.uf 213 Ms) (oO (.o2 .le (.o1 .ab (eC 9 kB k7)) (.il 2147483647)) (oO (.uf 111 PB) (oO (.o2 .aN (.il 1) (kF x)) (adz x))))))))))))))))),
  (fF (.uf 211 Ms) (fF tM YL), oO (.o2 .aN aI (.uf 303 CB)) (oP bT (.uf 304 CB) (oT j9 (.uf 302 CB) (oT my (.uf 305 CB) (oO (.o2 .le dA (.il 500000)) (oO (.o2 .le r7 (.il 500000)) (oO (.o2 .le bJ (.il 500000)) (oO (.o2 .le aI (.il 500000)) (oO (.o2 .le aq aI) (oO (.o2 .le (.o1 .ab El) (.il 20)) (oO (.uf 308 (eP j9 (eP aI U4))) (oO (.o2 .le (.o1 .ab El) cw) (oO (.uf 213 Ms) (oO (.o2 .le (.o1 .ab (eC 9 kB k7)) (.il 2147483647)) (oO (.uf 111 PB) (oO (.o2 .aN aq (kF x)) (adz x))))))))))))))))),
  (fT H6 T9, Pw x),
  (fT tM (fF H6 T9), adN x),
  (fT A1 aeQ, adg x),
  (fF A1 aeQ, acT x),
  (fT H6 VU, Pw x),
  (fT aem ab8, oO (.o2 .le aq (eC 1 bT (.o2 (.mf .s) bT F5))) (oO (.o2 .le aq (eC 1 bT (.o2 (.mf .s) bT F5))) (oO (.o2 .le aq (eC 1 bT (.o2 (.mf .s) bT F5))) (oO (.o2 .le ai aI) (oO (.o2 .le aq ai) (oO (.o2 .le ai (.il 9223372036854775807)) (oO (.o2 .le (.il (-9223372036854775808)) ai) (oO (.o2 .le aq aI) (oO (.o2 .lt ai bJ) (oO (.o2 .le aq ai) (oO (.o2 .lt ai aI) (oO (.o2 .le aq ai) (oO (.o2 .le ai (.il 9223372036854775807)) (oO (.o2 .le (.il (-9223372036854775808)) ai) (oO (.o2 .le aq aI) (oO (.o2 .le ai (.il 9223372036854775807)) (oO (.o2 .le (.il (-9223372036854775808)) ai) (oO (.o2 .le aq aI) (oO (.o2 .le aq fh) (oO (.o2 .le aq fh) (oO (.o2 .le aq fh) (oO (.uf 110 (eP rp (eP rn (eP (eC 5 kB k7) aq)))) (oO (.uf 110 (eP rp (eP rn (eP (eC 5 kB k7) aq)))) (oO (.o2 .aN aq (kF x)) (oO (.o2 .beq (.bl false) (eC 1 gf x)) (oT aq (nT x) (oT aq (eC 3 gf x) (oO (.o2 .seq (.sl []) (eC 4 gf x)) (oT aq (eC 5 gf x) (oT my sG (oT j9 sL (oP (.o2 (.md .s) bT F5) A4 Na)))))))))))))))))))))))))))))))),
  (fF aem ab8, oO (.o2 .le ai aI) (oO (.o2 .le aq ai) (oO (.o2 .le ai (.il 9223372036854775807)) (oO (.o2 .le (.il (-9223372036854775808)) ai) (oO (.o2 .le aq aI) (oO (.o2 .lt ai bJ) (oO (.o2 .le aq ai) (oO (.o2 .lt ai aI) (oO (.o2 .le aq ai) (oO (.o2 .le ai (.il 9223372036854775807)) (oO (.o2 .le (.il (-9223372036854775808)) ai) (oO (.o2 .le aq aI) (oO (.o2 .le ai (.il 9223372036854775807)) (oO (.o2 .le (.il (-9223372036854775808)) ai) (oO (.o2 .le aq aI) (oO (.o2 .le aq fh) (oO (.o2 .le aq fh) (oO (.o2 .le aq fh) (oO (.uf 110 (eP rp (eP rn (eP (eC 5 kB k7) aq)))) (oO (.uf 110 (eP rp (eP rn (eP (eC 5 kB k7) aq)))) (oO (.o2 .aN aq (kF x)) (oO (.o2 .beq (.bl false) (eC 1 gf x)) (oT aq (nT x) (oT aq (eC 3 gf x) (oO (.o2 .seq (.sl []) (eC 4 gf x)) (oT aq (eC 5 gf x) (oT my sG (oT j9 sL Pb)))))))))))))))))))))))))))),
  (fT (.o2 .le aq Ly) (fT RN RO), oO (.o2 .le aq (eC 1 bT Ly)) (oO (.o2 .le aq (eC 1 bT Ly)) (oO (.o2 .le aq (eC 1 bT Ly)) (oO (.o2 .le ai aI) (oO (.o2 .le aq ai) (oO (.o2 .le ai (.il 9223372036854775807)) (oO (.o2 .le (.il (-9223372036854775808)) ai) (oO (.o2 .le aq aI) (oO (.o2 .lt ai (.o1 .ab rX)) (oO (.o2 .le aq ai) (oO (.o2 .lt ai aI) (oO (.o2 .le aq ai) (oO (.o2 .le ai (.il 9223372036854775807)) (oO (.o2 .le (.il (-9223372036854775808)) ai) (oO (.o2 .le aq aI) (oT uT (.uf 291 uK) (oT yJ (.uf 292 uK) (oO (.o2 .aN bH (.uf 293 uK)) (oO (.o2 .le r7 cw) (oO (.o2 .le bJ cw) (oO (.o2 .le aI cw) (oO (.o2 .le ai aI) (oO (.o2 .le aq ai) (oO (.o2 .le bH cw) (oO (.o2 .le aq bH) (oO (.uf 287 (eP uT (eP bT (eP yJ qH)))) (oO (.o2 .le aq rz) (oO (.o2 .le aq rz) (oO (.o2 .le aq rz) (oO (.o2 .lt ai bJ) (oO (.o2 .le aq ai) (oO (.o2 .lt ai aI) (oO (.o2 .le aq ai) (oO (.o2 .le aq rq) (oO (.o2 .le aq rq) (oO (.o2 .le aq rq) (oO (.o2 .lt bH bJ) (oO (.o2 .le aq bH) (oO (.o2 .lt bH aI) (oO (.o2 .le aq bH) (oO (.o2 .lt ai bJ) (oO (.o2 .lt ai bJ) (oO (.o2 .le aq ai) (oO (.o2 .lt ai aI) (oO (.o2 .le aq ai) (oO (.o2 .lt bH bJ) (oO (.o2 .lt bH bJ) (oO (.o2 .le aq bH) (oO (.o2 .lt bH aI) (oO (.o2 .le aq bH) (oO (.o2 .lt bH bJ) (oO (.o2 .le aq bH) (oO (.o2 .lt bH aI) (oO (.o2 .le aq bH) (oO (.o2 .lt ai bJ) (oO (.o2 .le aq ai) (oO (.o2 .lt ai aI) (oO (.o2 .le aq ai) (oO (.o2 .le ai (.il 9223372036854775807)) (oO (.o2 .le (.il (-9223372036854775808)) ai) (oO (.o2 .le aq aI) (oO (.o2 .le aq fh) (oO (.o2 .le aq fh) (oO (.o2 .le aq fh) (oO (.uf 110 (eP rp (eP rn (eP (eC 5 kB k7) aq)))) (oO (.uf 110 (eP rp (eP rn (eP (eC 5 kB k7) aq)))) (oO (.o2 .aN aq (kF x)) (oO (.o2 .beq (.bl false) (eC 1 gf x)) (oT aq (nT x) (oT aq (eC 3 gf x) (oO (.o2 .seq (.sl []) (eC 4 gf x)) (oT aq (eC 5 gf x) (oT qn sG (oT rX sL (oP (.o2 (.md .s) bT (eC 0 rX ai)) A4 Na))))))))))))))))))))))))))))))))))))))))))))))))))))))))))))))))))))))))))),
  (fF (.o2 .le aq Ly) (fT RN RO), oO (.o2 .le ai aI) (oO (.o2 .le aq ai) (oO (.o2 .le ai (.il 9223372036854775807)) (oO (.o2 .le (.il (-9223372036854775808)) ai) (oO (.o2 .le aq aI) (oO (.o2 .lt ai (.o1 .ab rX)) (oO (.o2 .le aq ai) (oO (.o2 .lt ai aI) (oO (.o2 .le aq ai) (oO (.o2 .le ai (.il 9223372036854775807)) (oO (.o2 .le (.il (-9223372036854775808)) ai) (oO (.o2 .le aq aI) (oT uT (.uf 291 uK) (oT yJ (.uf 292 uK) (oO (.o2 .aN bH (.uf 293 uK)) (oO (.o2 .le r7 cw) (oO (.o2 .le bJ cw) (oO (.o2 .le aI cw) (oO (.o2 .le ai aI) (oO (.o2 .le aq ai) (oO (.o2 .le bH cw) (oO (.o2 .le aq bH) (oO (.uf 287 (eP uT (eP bT (eP yJ qH)))) (oO (.o2 .le aq rz) (oO (.o2 .le aq rz) (oO (.o2 .le aq rz) (oO (.o2 .lt ai bJ) (oO (.o2 .le aq ai) (oO (.o2 .lt ai aI) (oO (.o2 .le aq ai) (oO (.o2 .le aq rq) (oO (.o2 .le aq rq) (oO (.o2 .le aq rq) (oO (.o2 .lt bH bJ) (oO (.o2 .le aq bH) (oO (.o2 .lt bH aI) (oO (.o2 .le aq bH) (oO (.o2 .lt ai bJ) (oO (.o2 .lt ai bJ) (oO (.o2 .le aq ai) (oO (.o2 .lt ai aI) (oO (.o2 .le aq ai) (oO (.o2 .lt bH bJ) (oO (.o2 .lt bH bJ) (oO (.o2 .le aq bH) (oO (.o2 .lt bH aI) (oO (.o2 .le aq bH) (oO (.o2 .lt bH bJ) (oO (.o2 .le aq bH) (oO (.o2 .lt bH aI) (oO (.o2 .le aq bH) (oO (.o2 .lt ai bJ) (oO (.o2 .le aq ai) (oO (.o2 .lt ai aI) (oO (.o2 .le aq ai) (oO (.o2 .le ai (.il 9223372036854775807)) (oO (.o2 .le (.il (-9223372036854775808)) ai) (oO (.o2 .le aq aI) (oO (.o2 .le aq fh) (oO (.o2 .le aq fh) (oO (.o2 .le aq fh) (oO (.uf 110 (eP rp (eP rn (eP (eC 5 kB k7) aq)))) (oO (.uf 110 (eP rp (eP rn (eP (eC 5 kB k7) aq)))) (oO (.o2 .aN aq (kF x)) (oO (.o2 .beq (.bl false) (eC 1 gf x)) (oT aq (nT x) (oT aq (eC 3 gf x) (oO (.o2 .seq (.sl []) (eC 4 gf x)) (oT aq (eC 5 gf x) (oT qn sG (oT rX sL Pb))))))))))))))))))))))))))))))))))))))))))))))))))))))))))))))))))))))),
  (fT SX (fF RN RO), oO (.o2 .le aq (eC 1 bT (.o2 (.mf .s) bT C3))) (oO (.o2 .le aq (eC 1 bT (.o2 (.mf .s) bT C3))) (oO (.o2 .le aq (eC 1 bT (.o2 (.mf .s) bT C3))) (oO (.o2 .le ai aI) (oO (.o2 .le aq ai) (oO (.o2 .le ai (.il 9223372036854775807)) (oO (.o2 .le (.il (-9223372036854775808)) ai) (oO (.o2 .le aq aI) (oO (.o2 .lt ai (.o1 .ab (.uf 285 wq))) (oO (.o2 .le aq ai) (oO (.o2 .lt ai aI) (oO (.o2 .le aq ai) (oO (.o2 .le ai (.il 9223372036854775807)) (oO (.o2 .le (.il (-9223372036854775808)) ai) (oO (.o2 .le aq aI) (oT rX (.uf 281 yR) (oT qn (.uf 282 yR) (oO (.o2 .aN bH (.uf 283 yR)) (oO (.o2 .le (.o1 .ab qn) cw) (oO (.o2 .le (.o1 .ab rX) cw) (oO (.o2 .le aI cw) (oO (.o2 .lt bH aI) (oO (.o2 .le aq bH) (oO (.uf 287 (eP rX (eP bT (eP qn qH)))) (oT uT (.uf 291 uK) (oT yJ (.uf 292 uK) (oO (.o2 .aN bH (.uf 293 uK)) (oO (.o2 .le r7 cw) (oO (.o2 .le bJ cw) (oO (.o2 .le aI cw) (oO (.o2 .le ai aI) (oO (.o2 .le aq ai) (oO (.o2 .le bH cw) (oO (.o2 .le aq bH) (oO (.uf 287 (eP uT (eP bT (eP yJ qH)))) (oO (.o2 .le aq rz) (oO (.o2 .le aq rz) (oO (.o2 .le aq rz) (oO (.o2 .lt ai bJ) (oO (.o2 .le aq ai) (oO (.o2 .lt ai aI) (oO (.o2 .le aq ai) (oO (.o2 .le aq rq) (oO (.o2 .le aq rq) (oO (.o2 .le aq rq) (oO (.o2 .lt bH bJ) (oO (.o2 .le aq bH) (oO (.o2 .lt bH aI) (oO (.o2 .le aq bH) (oO (.o2 .lt ai bJ) (oO (.o2 .lt ai bJ) (oO (.o2 .le aq ai) (oO (.o2 .lt ai aI) (oO (.o2 .le aq ai) (oO (.o2 .lt bH bJ) (oO (.o2 .lt bH bJ) (oO (.o2 .le aq bH) (oO (.o2 .lt bH aI) (oO (.o2 .le aq bH) (oO (.o2 .lt bH bJ) (oO (.o2 .le aq bH) (oO (.o2 .lt bH aI) (oO (.o2 .le aq bH) (oO (.o2 .lt ai bJ) (oO (.o2 .le aq ai) (oO (.o2 .lt ai aI) (oO (.o2 .le aq ai) (oO (.o2 .le ai (.il 9223372036854775807)) (oO (.o2 .le (.il (-9223372036854775808)) ai) (oO (.o2 .le aq aI) (oO (.o2 .le aq fh) (oO (.o2 .le aq fh) (oO (.o2 .le aq fh) (oO (.uf 110 (eP rp (eP rn (eP (eC 5 kB k7) aq)))) (oO (.uf 110 (eP rp (eP rn (eP (eC 5 kB k7) aq)))) (oO (.o2 .aN aq (kF x)) (oO (.o2 .beq (.bl false) (eC 1 gf x)) (oT aq (nT x) (oT aq (eC 3 gf x) (oO (.o2 .seq (.sl []) (eC 4 gf x)) (oT aq (eC 5 gf x) (oT (.uf 286 wq) sG (oT (.uf 285 wq) sL (oP (.o2 (.md .s) bT C3) A4 Na)))))))))))))))))))))))))))))))))))))))))))))))))))))))))))))))))))))))))))))))))))),
  (fF SX (fF RN RO), oO (.o2 .le ai aI) (oO (.o2 .le aq ai) (oO (.o2 .le ai (.il 9223372036854775807)) (oO (.o2 .le (.il (-9223372036854775808)) ai) (oO (.o2 .le aq aI) (oO (.o2 .lt ai (.o1 .ab (.uf 285 wq))) (oO (.o2 .le aq ai) (oO (.o2 .lt ai aI) (oO (.o2 .le aq ai) (oO (.o2 .le ai (.il 9223372036854775807)) (oO (.o2 .le (.il (-9223372036854775808)) ai) (oO (.o2 .le aq aI) (oT rX (.uf 281 yR) (oT qn (.uf 282 yR) (oO (.o2 .aN bH (.uf 283 yR)) (oO (.o2 .le (.o1 .ab qn) cw) (oO (.o2 .le (.o1 .ab rX) cw) (oO (.o2 .le aI cw) (oO (.o2 .lt bH aI) (oO (.o2 .le aq bH) (oO (.uf 287 (eP rX (eP bT (eP qn qH)))) (oT uT (.uf 291 uK) (oT yJ (.uf 292 uK) (oO (.o2 .aN bH (.uf 293 uK)) (oO (.o2 .le r7 cw) (oO (.o2 .le bJ cw) (oO (.o2 .le aI cw) (oO (.o2 .le ai aI) (oO (.o2 .le aq ai) (oO (.o2 .le bH cw) (oO (.o2 .le aq bH) (oO (.uf 287 (eP uT (eP bT (eP yJ qH)))) (oO (.o2 .le aq rz) (oO (.o2 .le aq rz) (oO (.o2 .le aq rz) (oO (.o2 .lt ai bJ) (oO (.o2 .le aq ai) (oO (.o2 .lt ai aI) (oO (.o2 .le aq ai) (oO (.o2 .le aq rq) (oO (.o2 .le aq rq) (oO (.o2 .le aq rq) (oO (.o2 .lt bH bJ) (oO (.o2 .le aq bH) (oO (.o2 .lt bH aI) (oO (.o2 .le aq bH) (oO (.o2 .lt ai bJ) (oO (.o2 .lt ai bJ) (oO (.o2 .le aq ai) (oO (.o2 .lt ai aI) (oO (.o2 .le aq ai) (oO (.o2 .lt bH bJ) (oO (.o2 .lt bH bJ) (oO (.o2 .le aq bH) (oO (.o2 .lt bH aI) (oO (.o2 .le aq bH) (oO (.o2 .lt bH bJ) (oO (.o2 .le aq bH) (oO (.o2 .lt bH aI) (oO (.o2 .le aq bH) (oO (.o2 .lt ai bJ) (oO (.o2 .le aq ai) (oO (.o2 .lt ai aI) (oO (.o2 .le aq ai) (oO (.o2 .le ai (.il 9223372036854775807)) (oO (.o2 .le (.il (-9223372036854775808)) ai) (oO (.o2 .le aq aI) (oO (.o2 .le aq fh) (oO (.o2 .le aq fh) (oO (.o2 .le aq fh) (oO (.uf 110 (eP rp (eP rn (eP (eC 5 kB k7) aq)))) (oO (.uf 110 (eP rp (eP rn (eP (eC 5 kB k7) aq)))) (oO (.o2 .aN aq (kF x)) (oO (.o2 .beq (.bl false) (eC 1 gf x)) (oT aq (nT x) (oT aq (eC 3 gf x) (oO (.o2 .seq (.sl []) (eC 4 gf x)) (oT aq (eC 5 gf x) (oT (.uf 286 wq) sG (oT (.uf 285 wq) sL Pb)))))))))))))))))))))))))))))))))))))))))))))))))))))))))))))))))))))))))))))))),
  (fF (.o2 .le aq UA) ado, zX),
  (fF (.o2 .le aq W6) aeB, zX),
  (fF A1 (fF H6 VU), oO (.uf 110 (eP rp (eP rn (eP (eC 5 kB k7) aq)))) (oO (.uf 110 (eP rp (eP rn (eP (eC 5 kB k7) aq)))) (oO (.o2 .aN (.il 14) (kF x)) (MT x)))),
  (fT (.o2 .aN aI aq) Sd, oO (.o2 .aN dA (.o1 .ab gY)) (S8 x)),
  (fT HF SI, oO (.uf 110 (eP (eC 0 lr aq) (eP (eC 1 lr aq) (eP (eC 4 lr aq) aq)))) (oO (.o2 .le aq xA) (oO (.o2 .le aq xA) (oO (.o2 .le aq xA) (oO (.o2 .le ai aI) (oO (.o2 .le aq ai) (oO (.o2 .le ai (.il 9223372036854775807)) (oO (.o2 .le (.il (-9223372036854775808)) ai) (oO (.o2 .le aq aI) (oO (.o2 .lt ai (.o1 .ab (.uf 295 qm))) (oO (.o2 .le aq ai) (oO (.o2 .lt ai aI) (oO (.o2 .le aq ai) (oO (.o2 .le ai (.il 9223372036854775807)) (oO (.o2 .le (.il (-9223372036854775808)) ai) (oO (.o2 .le aq aI) (oT nQ (.uf 291 nJ) (oT qh (.uf 292 nJ) (oO (.o2 .aN aq (.uf 293 nJ)) (oO (.o2 .le r7 cw) (oO (.o2 .le bJ cw) (oO (.o2 .le aI cw) (oO (.o2 .le ai aI) (oO (.o2 .le aq ai) (oO (.uf 287 (eP nQ (eP bT (eP qh qH)))) (oO (.o2 .le aq lL) (oO (.o2 .le aq lL) (oO (.o2 .le aq lL) (oO (.o2 .lt ai bJ) (oO (.o2 .le aq ai) (oO (.o2 .lt ai aI) (oO (.o2 .le aq ai) (oO (.o2 .le aq lx) (oO (.o2 .le aq lx) (oO (.o2 .le aq lx) (oO (.o2 .lt aq bJ) (oO (.o2 .lt aq aI) (oO (.o2 .lt ai bJ) (oO (.o2 .lt ai bJ) (oO (.o2 .le aq ai) (oO (.o2 .lt ai aI) (oO (.o2 .le aq ai) (oO (.o2 .lt aq bJ) (oO (.o2 .lt aq bJ) (oO (.o2 .lt aq aI) (oO (.o2 .lt aq bJ) (oO (.o2 .lt aq aI) (oO (.o2 .lt ai bJ) (oO (.o2 .le aq ai) (oO (.o2 .lt ai aI) (oO (.o2 .le aq ai) (oO (.o2 .le ai (.il 9223372036854775807)) (oO (.o2 .le (.il (-9223372036854775808)) ai) (oO (.o2 .le aq aI) (oO (.o2 .le aq aI) (oO (.o2 .aN dA (.o1 .ab gY)) (S7 x))))))))))))))))))))))))))))))))))))))))))))))))))))))))),
  (fF HF SI, oO (.o2 .le ai aI) (oO (.o2 .le aq ai) (oO (.o2 .le ai (.il 9223372036854775807)) (oO (.o2 .le (.il (-9223372036854775808)) ai) (oO (.o2 .le aq aI) (oO (.o2 .lt ai (.o1 .ab (.uf 295 qm))) (oO (.o2 .le aq ai) (oO (.o2 .lt ai aI) (oO (.o2 .le aq ai) (oO (.o2 .le ai (.il 9223372036854775807)) (oO (.o2 .le (.il (-9223372036854775808)) ai) (oO (.o2 .le aq aI) (oT nQ (.uf 291 nJ) (oT qh (.uf 292 nJ) (oO (.o2 .aN aq (.uf 293 nJ)) (oO (.o2 .le r7 cw) (oO (.o2 .le bJ cw) (oO (.o2 .le aI cw) (oO (.o2 .le ai aI) (oO (.o2 .le aq ai) (oO (.uf 287 (eP nQ (eP bT (eP qh qH)))) (oO (.o2 .le aq lL) (oO (.o2 .le aq lL) (oO (.o2 .le aq lL) (oO (.o2 .lt ai bJ) (oO (.o2 .le aq ai) (oO (.o2 .lt ai aI) (oO (.o2 .le aq ai) (oO (.o2 .le aq lx) (oO (.o2 .le aq lx) (oO (.o2 .le aq lx) (oO (.o2 .lt aq bJ) (oO (.o2 .lt aq aI) (oO (.o2 .lt ai bJ) (oO (.o2 .lt ai bJ) (oO (.o2 .le aq ai) (oO (.o2 .lt ai aI) (oO (.o2 .le aq ai) (oO (.o2 .lt aq bJ) (oO (.o2 .lt aq bJ) (oO (.o2 .lt aq aI) (oO (.o2 .lt aq bJ) (oO (.o2 .lt aq aI) (oO (.o2 .lt ai bJ) (oO (.o2 .le aq ai) (oO (.o2 .lt ai aI) (oO (.o2 .le aq ai) (oO (.o2 .le ai (.il 9223372036854775807)) (oO (.o2 .le (.il (-9223372036854775808)) ai) (oO (.o2 .le aq aI) (oO (.o2 .le aq aI) (oO (.o2 .aN dA (.o1 .ab gY)) (SD x))))))))))))))))))))))))))))))))))))))))))))))))))))),
  (fF (.o2 .le aq Ce) RQ, zX),
  (fF (.o2 .le aq Cg) Sk, zX),
  (fF tM (fT Hf HX), oO (.o2 .aN dA (.o1 .ab gY)) (oO (.o2 .le dA (.o1 .ab x9)) (oO (.o2 .le dA (.il 4611686018427387903)) (oO (.o2 .aN dA (.o1 .ab (.uf 200 lN))) (oO (.uf 201 lN) (oO (.o2 .le dA cw) (oO (.o2 .le dA (.il 2147483648)) (oO (.o2 .le dA (.il 2147483648)) (oO (.o2 .aN (.il 99) (kF x)) (MT x)))))))))),
  (fT (.o2 .aN aI aq) (fF Hf HX), oO (.o2 .or (.o2 .lt aq aI) tM) (oO (.o2 .aN dA (.o1 .ab gY)) (oO (.o2 .le (.o1 .ab gY) cw) (S8 x)))),
  (fT HF Sc, oO (.uf 110 (eP (eC 0 lr aq) (eP (eC 1 lr aq) (eP (eC 4 lr aq) aq)))) (oO (.o2 .le aq xA) (oO (.o2 .le aq xA) (oO (.o2 .le aq xA) (oO (.o2 .le ai aI) (oO (.o2 .le aq ai) (oO (.o2 .le ai (.il 9223372036854775807)) (oO (.o2 .le (.il (-9223372036854775808)) ai) (oO (.o2 .le aq aI) (oO (.o2 .lt ai (.o1 .ab (.uf 295 qm))) (oO (.o2 .le aq ai) (oO (.o2 .lt ai aI) (oO (.o2 .le aq ai) (oO (.o2 .le ai (.il 9223372036854775807)) (oO (.o2 .le (.il (-9223372036854775808)) ai) (oO (.o2 .le aq aI) (oT nQ (.uf 291 nJ) (oT qh (.uf 292 nJ) (oO (.o2 .aN aq (.uf 293 nJ)) (oO (.o2 .le r7 cw) (oO (.o2 .le bJ cw) (oO (.o2 .le aI cw) (oO (.o2 .le ai aI) (oO (.o2 .le aq ai) (oO (.uf 287 (eP nQ (eP bT (eP qh qH)))) (oO (.o2 .le aq lL) (oO (.o2 .le aq lL) (oO (.o2 .le aq lL) (oO (.o2 .lt ai bJ) (oO (.o2 .le aq ai) (oO (.o2 .lt ai aI) (oO (.o2 .le aq ai) (oO (.o2 .le aq lx) (oO (.o2 .le aq lx) (oO (.o2 .le aq lx) (oO (.o2 .lt aq bJ) (oO (.o2 .lt aq aI) (oO (.o2 .lt ai bJ) (oO (.o2 .lt ai bJ) (oO (.o2 .le aq ai) (oO (.o2 .lt ai aI) (oO (.o2 .le aq ai) (oO (.o2 .lt aq bJ) (oO (.o2 .lt aq bJ) (oO (.o2 .lt aq aI) (oO (.o2 .lt aq bJ) (oO (.o2 .lt aq aI) (oO (.o2 .lt ai bJ) (oO (.o2 .le aq ai) (oO (.o2 .lt ai aI) (oO (.o2 .le aq ai) (oO (.o2 .le ai (.il 9223372036854775807)) (oO (.o2 .le (.il (-9223372036854775808)) ai) (oO (.o2 .le aq aI) (oO (.o2 .or (.o2 .lt aq aI) tM) (oO (.o2 .le aq aI) (oO (.o2 .aN dA (.o1 .ab gY)) (oO (.o2 .le (.o1 .ab gY) cw) (S7 x))))))))))))))))))))))))))))))))))))))))))))))))))))))))))),
  (fF HF Sc, oO (.o2 .le ai aI) (oO (.o2 .le aq ai) (oO (.o2 .le ai (.il 9223372036854775807)) (oO (.o2 .le (.il (-9223372036854775808)) ai) (oO (.o2 .le aq aI) (oO (.o2 .lt ai (.o1 .ab (.uf 295 qm))) (oO (.o2 .le aq ai) (oO (.o2 .lt ai aI) (oO (.o2 .le aq ai) (oO (.o2 .le ai (.il 9223372036854775807)) (oO (.o2 .le (.il (-9223372036854775808)) ai) (oO (.o2 .le aq aI) (oT nQ (.uf 291 nJ) (oT qh (.uf 292 nJ) (oO (.o2 .aN aq (.uf 293 nJ)) (oO (.o2 .le r7 cw) (oO (.o2 .le bJ cw) (oO (.o2 .le aI cw) (oO (.o2 .le ai aI) (oO (.o2 .le aq ai) (oO (.uf 287 (eP nQ (eP bT (eP qh qH)))) (oO (.o2 .le aq lL) (oO (.o2 .le aq lL) (oO (.o2 .le aq lL) (oO (.o2 .lt ai bJ) (oO (.o2 .le aq ai) (oO (.o2 .lt ai aI) (oO (.o2 .le aq ai) (oO (.o2 .le aq lx) (oO (.o2 .le aq lx) (oO (.o2 .le aq lx) (oO (.o2 .lt aq bJ) (oO (.o2 .lt aq aI) (oO (.o2 .lt ai bJ) (oO (.o2 .lt ai bJ) (oO (.o2 .le aq ai) (oO (.o2 .lt ai aI) (oO (.o2 .le aq ai) (oO (.o2 .lt aq bJ) (oO (.o2 .lt aq bJ) (oO (.o2 .lt aq aI) (oO (.o2 .lt aq bJ) (oO (.o2 .lt aq aI) (oO (.o2 .lt ai bJ) (oO (.o2 .le aq ai) (oO (.o2 .lt ai aI) (oO (.o2 .le aq ai) (oO (.o2 .le ai (.il 9223372036854775807)) (oO (.o2 .le (.il (-9223372036854775808)) ai) (oO (.o2 .le aq aI) (oO (.o2 .or (.o2 .lt aq aI) tM) (oO (.o2 .le aq aI) (oO (.o2 .aN dA (.o1 .ab gY)) (oO (.o2 .le (.o1 .ab gY) cw) (SD x))))))))))))))))))))))))))))))))))))))))))))))))))))))),
  (fF (.o2 .le aq Ce) Sv, zX),
  (fF (.o2 .le aq Cg) TC, zX),
  (fT (.o2 .aN zm (.il 6)) Te, oO (.o2 .le (.o1 .ab Kt) cw) (oO (.uf 113 (eP Kt aq)) (oO (.o2 .aN dA (.o1 .ab gY)) (oO (.uf 301 (eP gY lN)) (oO (.o2 .le (.o1 .ab gY) cw) (oO (.o2 .le dA (.o1 .ab x9)) (oO (.o2 .le dA (.il 4611686018427387903)) (oO (.o2 .aN dA (.o1 .ab (.uf 200 lN))) (oO (.uf 201 lN) (oO (.o2 .le dA cw) (oO (.o2 .le dA (.il 2147483648)) (oO (.o2 .le dA (.il 2147483648)) (oO (.o2 .aN aq (kF x)) (oO (.o2 .beq (.bl false) (eC 1 gf x)) (oT (.uf 102 (eP Kt aq)) (nT x) (QG x)))))))))))))))),
  (fT (.o2 .aN zm (.il 7)) Sb, oO (.o2 .le (.o1 .ab gY) cw) (oO (.o2 .aN dA (.o1 .ab gY)) (oO (.o2 .le (.o1 .ab gY) cw) (oO (.o2 .le dA (.o1 .ab x9)) (oO (.o2 .le dA (.il 4611686018427387903)) (oO (.o2 .aN dA (.o1 .ab (.uf 200 lN))) (oO (.uf 201 lN) (oO (.o2 .le dA cw) (oO (.o2 .le dA (.il 2147483648)) (oO (.o2 .le dA (.il 2147483648)) (oO (.o2 .aN aq (kF x)) (oO (.o2 .beq (.bl false) (eC 1 gf x)) (oT aq (nT x) (oT (.uf 106 (eP gY aq)) (eC 3 gf x) (aed x))))))))))))))),
  (fT H6 Nt, Pw x),
  (fT A1 (fF H6 Nt), oO (.uf 110 (eP (eC 0 nX aq) (eP (eC 1 nX aq) (eP (eC 4 nX aq) aq)))) (oO (.o2 .le aq fh) (oO (.o2 .le aq fh) (oO (.o2 .le aq fh) (oO (.uf 110 (eP rp (eP rn (eP (eC 5 kB k7) aq)))) (oO (.uf 110 (eP rp (eP rn (eP (eC 5 kB k7) aq)))) (oO (.o2 .aN aq (kF x)) (oO (.o2 .beq (.bl true) (eC 1 gf x)) (oT (eP (eC 0 nX aq) (eP (eC 1 nX aq) (eP (eC 2 nX aq) (eP (eC 3 nX aq) (eP (eC 4 nX aq) (eP (eC 5 nX aq) (eP (eC 6 nX aq) (eP (eC 7 nX aq) aq)))))))) (nT x) (QG x)))))))))),
  (fF A1 (fF H6 Nt), adg x),
  (fT (.o2 .le aq yS) SC, oO (.uf 110 (eP (eC 0 n6 aq) (eP (eC 1 n6 aq) (eP (eC 4 n6 aq) aq)))) (oO (.o2 .le aq (eC 1 bT yS)) (oO (.o2 .le aq (eC 1 bT yS)) (oO (.o2 .le aq (eC 1 bT yS)) (oO (.o2 .aN aq (kF x)) (oO (.o2 .beq (.bl true) (eC 1 gf x)) (oT (eP (eC 0 n6 aq) (eP (eC 1 n6 aq) (eP (eC 2 n6 aq) (eP (eC 3 n6 aq) (eP (eC 4 n6 aq) (eP (eC 5 n6 aq) (eP (eC 6 n6 aq) (eP (eC 7 n6 aq) aq)))))))) (nT x) (QG x)))))))),
  (fF (.o2 .le aq yS) SC, WT x),
  (fT (.o2 .aN zm (.il 9)) SK, oO (.o2 .aN aq (kF x)) (oO (.o2 .beq (.bl false) (eC 1 gf x)) (oT aq (nT x) (oT aq (eC 3 gf x) (oO (.o2 .seq (.sl []) (eC 4 gf x)) (oT aq (eC 5 gf x) (oT my sG (oT j9 sL (oP bT A4 (oO (.o2 .aN aI Nc) (oO (.o2 .beq (.bl true) (.uf 314 JA)) []))))))))))),
  (fF (.o2 .aN zm (.il 9)) SK, WT x)]
abbrev R0 : List Ob := oT my (.uf 317 (eP kB aq)) []
def Yh : List (aa × List Ob) :=
 hmG (.il 0) ++ [(fF os4 [], oT aq gf R0)]
def Uk : List (aa × List Ob) :=
 hmG (.v 2207) ++ [(fF os4 [], oO (.o2 .le k7 (.o1 .ab gf)) (oT (.o2 .cJ gf k7) gf R0))]
end Go.Proofs.YtdlppkhmmclipaaGreat.sxObj
namespace Go.Proofs.YtdlppkhmmclipaaGreat.sxObj
open Go.Sx Go.RowKit Go.Proofs.YtdlppkhmmclipaaGreat
set_option linter.unusedVariables false
set_option linter.unusedSimpArgs false
set_option maxRecDepth 100000
set_option maxHeartbeats 4000000
theorem aef {p : Row} : jo (cc p 1).S (cc p 2).S = bd p := id rfl
theorem Zq {p : Row} : O2.den .b9 (cc p 1) (O2.den .b9 (cc p 2) (O2.den .b9 (cc p 3) (O2.den .b9 (cc p 4) (O2.den .b9 (cc p 5) (O2.den .b9 (cc p 6) (O2.den .b9 (cc p 7) (O2.den .b9 (cc p 8) (O2.den .b9 (.i 0) (.i 0))))))))) = dM p := id rfl
theorem adD {h : HM} {k : Dv} : (cc (row (.t h.A) (dN (.t h.I) k).toNat) 1).I = fX h k := id rfl
theorem aeD {h : HM} {i : Nat} : cc (row (.t h.B) i) 0 = h.key i := id rfl
theorem yA {h : HM} {i j : Nat} : (h.B.set i [h.key j]).set j [h.key i] = (bo h i j).B := id rfl
theorem yH {h : HM} {i j a : Nat} : cc (row (.t (bo h i j).B) a) 0 = (bo h i j).key a := id rfl
theorem JK {h : HM} {i j : Nat} : (h.A.set (dN (.t h.I) ((bo h i j).key i)).toNat [cc (row (.t h.A) (dN (.t h.I) ((bo h i j).key i)).toNat) 0, .i i]).set (dN (.t h.I) ((bo h i j).key j)).toNat [cc (row (.t (h.A.set (dN (.t h.I) ((bo h i j).key i)).toNat [cc (row (.t h.A) (dN (.t h.I) ((bo h i j).key i)).toNat) 0, .i i])) (dN (.t h.I) ((bo h i j).key j)).toNat) 0, .i j] = (bo h i j).A := id rfl
theorem GZ {h : HM} {j : Nat} : (h.A.set (dN (.t h.I) ((bo h 0 j).key 0)).toNat [cc (row (.t h.A) (dN (.t h.I) ((bo h 0 j).key 0)).toNat) 0, .i 0]).set (dN (.t h.I) ((bo h 0 j).key j)).toNat [cc (row (.t (h.A.set (dN (.t h.I) ((bo h 0 j).key 0)).toNat [cc (row (.t h.A) (dN (.t h.I) ((bo h 0 j).key 0)).toNat) 0, .i 0])) (dN (.t h.I) ((bo h 0 j).key j)).toNat) 0, .i j] = (bo h 0 j).A := id rfl
section
variable {h : HM} {i j m r a : Nat}
theorem Av : (dI (.t (bo h i j).B) (.t h.I) (.t (bo h i j).A) m r (xv (.t (bo h i j).B) (.t h.I) (.t (bo h i j).A) m r)).A = (cU (bo h i j) m r).A := id rfl
theorem Ak : (dI (.t (bo h i j).B) (.t h.I) (.t (bo h i j).A) m r (xv (.t (bo h i j).B) (.t h.I) (.t (bo h i j).A) m r)).B = (cU (bo h i j) m r).B := id rfl
theorem Bo : (dI (.t (bo h i j).B) (.t h.I) (.t (bo h i j).A) m r (xv (.t (bo h i j).B) (.t h.I) (.t (bo h i j).A) m r)).j = B7 (bo h i j) m r := id rfl
theorem Bc : (eh (.t (cU (bo h i j) m r).B) (.t h.I) (.t (cU (bo h i j) m r).A) a (CV (.t (cU (bo h i j) m r).B) (.t h.I) (.t (cU (bo h i j) m r).A) a)).A = (p7 (cU (bo h i j) m r) a).A := id rfl
theorem Bn : (eh (.t (cU (bo h i j) m r).B) (.t h.I) (.t (cU (bo h i j) m r).A) a (CV (.t (cU (bo h i j) m r).B) (.t h.I) (.t (cU (bo h i j) m r).A) a)).B = (p7 (cU (bo h i j) m r) a).B := id rfl
theorem rL : cc (row (.t h.B) a) 0 = h.key a := id rfl
end
theorem OO {h h' : HM} (v : fY h) (h0 : 0 < h.n) (m : ∀ x, h'.mem x ↔ (bo h 0 (h.n - 1)).mem x) (c : eJ h') (hm : h.n - 1 < h.n) (e : h'.key (h.n - 1) = (bo h 0 (h.n - 1)).key (h.n - 1)) (hn : h'.n = h.n := by rfl) : h'.ob (h.n - 1) = h.ob 0 := by
 have hb := v.c.dK.n; have q := c.k (h.n - 1) (by omega)
 obtain ⟨i, hi, r⟩ := (Bq h0 hm hb _).1 ((m _).1 ⟨h.n - 1, by omega, rfl⟩)
 rw [e, BS (by omega) (by omega), tT, <- r, v.c.k i hi] at q
 rw [<- r, v.c.d i 0 hi h0 q]
theorem R7 {d : Dv} : ∀ l : List Row, dQ .s d l = dQ .s (.s d.S) l
 | [] => rfl
 | x :: l => by
   show (bif KQ.s.eq _ d then _ else _) = (bif KQ.s.eq _ d then _ else _); rw [R7 l]
theorem Yi {d : Dv} {l : List Row} : aQ .s d l = aQ .s (.s d.S) l := by
 unfold aQ; rw [R7 l]
theorem af1 {d : Dv} {I : Dv} : dN I d = dN I (.s d.S) := by
 unfold dN; rw [Yi]
theorem MY {Q Q' : Nat -> Prop} {n : Nat} (h : ∀ j, j < n -> (Q j ↔ Q' j)) : gN Q n = gN Q' n := by
 have e : ∀ j, j < n -> (!dec (Q j)) = (!dec (Q' j)) := fun j hj => congrArg (fun P => !dec P) (propext (h j hj)); have ha : gN Q n <= n := j8; have hb : gN Q' n <= n := j8; rcases Nat.lt_trichotomy (gN Q n) (gN Q' n) with q | q | q
 ·have h1 : (!dec (Q (gN Q n))) = true := nb (show stop (fun j => !dec (Q j)) n < n from Nat.lt_of_lt_of_le q hb); have h2 : (!dec (Q' (gN Q n))) = false := bI (show gN Q n < stop (fun j => !dec (Q' j)) n from q); rw [e _ (Nat.lt_of_lt_of_le q hb), h2] at h1; cases h1
 ·exact q
 ·have h1 : (!dec (Q' (gN Q' n))) = true := nb (show stop (fun j => !dec (Q' j)) n < n from Nat.lt_of_lt_of_le q ha); have h2 : (!dec (Q (gN Q' n))) = false := bI (show gN Q' n < stop (fun j => !dec (Q j)) n from q); rw [<- e _ (Nat.lt_of_lt_of_le q ha), h2] at h1; cases h1
theorem Tu {l : Dv} : gN (qa (.t (l.T.map lC))) l.T.length = gN (qb l) l.T.length :=
 MY fun j hj => MB hj
section
variable {o : Env}
theorem G7 (hu : OU o) (hv : OV o) (hh : OH o) (hj : OJ o) {r : Nat} (hr : o.v 2207 = .i r) (hent : (Gz.aU 0).ay o) (hle : (r : Int) <= ((aB (.v 7780)).den o).I) {x : E} (hx : x.den o = .i r) : bn o (hmG x) := by
 simp only [Gz, D8, cP, aB, pk, List.foldr, SS, implies_true, hj.hp, al] at hent hle; obtain ⟨hf, hlen⟩ := hent; obtain ⟨gg, go, gl, gv, gr, gn, gb, gi, ga⟩ := lP hf r (by omega)
 simp only [hmG, af, au, and_true]
 and_intros
 all_goals intro h
 all_goals simp only [SS, implies_true, hr, hx, hh.all, hu.mr, hu.Lb, hu.I9, hu.ME, hu.jq, hu.mV, hu.IG, hv.OY, hv.Kc, hv.Of, hv.IQ, hv.Pv, hj.hb, hj.hp, CP, al, cD, Classical.not_not, Qd, Xh, P1, PV, tnn, tni] at h ⊢
 all_goals have hl : r < (o.v 7780).T.length := by omega
 all_goals have hA := wU hl
 all_goals have hS : gU (o.v 7780) (r + 1) = (bN (row (o.v 7780) r) (gU (o.v 7780) r)).1 := rfl
 all_goals obtain ⟨K, p2, p3⟩ := hf.1 r hl
 all_goals have K : Ra (cc (row (o.v 7780) r) 1) (cc (row (o.v 7780) r) 2) (cc (row (o.v 7780) r) 5) := K
 all_goals generalize gU (o.v 7780) r = s at *
 all_goals generalize row (o.v 7780) r = p at *
 all_goals try simp only [aef, Zq, oz, adD, aeD, ael, aa4, aaC, Z1, abx, aeJ, aeP] at h ⊢
 ·rw [P3 (by omega) h.1] at hA hS; rw [hA, hS]
  exact ⟨K, K, rfl, rfl, rfl, rfl, rfl, rfl, rfl, rfl, List.Perm.refl _, rfl, rfl⟩
 ·rw [Jm (by omega) h.2.1, if_pos h.1] at hA hS; rw [hA, hS]
  exact ⟨K, K, rfl, rfl, rfl, rfl, rfl, rfl, rfl, rfl, List.Perm.refl _, rfl, rfl⟩
 ·obtain ⟨hx, hh2, hcl, hgd, h1, _⟩ := h; have hc : jt (dM p) (.s (bd p)) := mO hgd K; have hset := pU gv.c hh2 hc; have hnn := G0 gv.c hh2; obtain ⟨_, _, _, _, _, _, j0, j1⟩ := oB gv hh2 hc
  have e1 : fu s.h (.s (bd p)) (dM p) = cU (bf s.h (.s (bd p)) (dM p)) s.h.n (fX (bf s.h (.s (bd p)) (dM p)) (.s (bd p))).toNat := by
   rw [BJ hh2]; unfold fi gC; rw [if_pos]; exact (Int.toNat_lt j0).2 hx
  rw [Jm (by omega) hgd, if_neg (by rw [hcl]; exact fun q => by cases q), show fu s.h (hZ p) (dM p) = _ from e1] at hA hS; rw [hA, hS]
  have hin2 := hset.dK; have hu2 := sK gv hh2 hc; have ul : (bf s.h (.s (bd p)) (dM p)).A.length = s.h.A.length := List.length_set ..
  repeat' refine And.intro ?_ ?_
  all_goals first
   | rfl
   | omega
   | assumption
   | exact List.Perm.refl _
   | exact bt gv.c.u
   | trivial
   | exact K.1
   | exact K.2.1
   | exact K.2.2
   | exact hbn2.symm
   | exact gg.i
   | exact gg.g
 ·obtain ⟨hx, hh2, hcl, hgd, h1, _⟩ := h; have hc : jt (dM p) (.s (bd p)) := mO hgd K; have hset := pU gv.c hh2 hc; have hnn := G0 gv.c hh2; obtain ⟨_, _, _, _, _, _, j0, j1⟩ := oB gv hh2 hc
  have e1 : fu s.h (.s (bd p)) (dM p) = p7 (cU (bf s.h (.s (bd p)) (dM p)) s.h.n (fX (bf s.h (.s (bd p)) (dM p)) (.s (bd p))).toNat) (fX (bf s.h (.s (bd p)) (dM p)) (.s (bd p))).toNat := by
   rw [BJ hh2]; unfold fi gC; rw [if_neg]; exact fun q => hx ((Int.toNat_lt j0).1 q)
  rw [Jm (by omega) hgd, if_neg (by rw [hcl]; exact fun q => by cases q), show fu s.h (hZ p) (dM p) = _ from e1] at hA hS; rw [hA, hS]
  have hin2 := hset.dK; have hu2 := sK gv hh2 hc; have hin3 := hu2.c.dK; have ul : (bf s.h (.s (bd p)) (dM p)).A.length = s.h.A.length := List.length_set ..; have ul2 := hu2.l; have ub2 : (cU (bf s.h (.s (bd p)) (dM p)) s.h.n (fX (bf s.h (.s (bd p)) (dM p)) (.s (bd p))).toNat).B.length = s.h.B.length := hu2.b
  repeat' refine And.intro ?_ ?_
  all_goals first
   | rfl
   | omega
   | assumption
   | exact List.Perm.refl _
   | exact bt gv.c.u
   | trivial
   | exact K.1
   | exact K.2.1
   | exact K.2.2
   | exact hbn2.symm
   | exact gg.i
   | exact gg.g
 ·obtain ⟨hh2, hcl, hgd, h1, _⟩ := h; have hc : jt (dM p) (.s (bd p)) := mO hgd K
  have e1 : fu s.h (.s (bd p)) (dM p) = p7 (bV s.h (.s (bd p)) (dM p)) s.h.n := by
   rw [Gv hh2]; rfl
  rw [Jm (by omega) hgd, if_neg (by rw [hcl]; exact fun q => by cases q), show fu s.h (hZ p) (dM p) = _ from e1] at hA hS; rw [hA, hS]
  have hin2 := (sh gv.c hh2 hc).dK; have hbn := gv.c.dK.n; have htk : (List.take s.h.n s.h.B).length <= s.h.n := by rw [List.length_take]; omega
  repeat' refine And.intro ?_ ?_
  all_goals first
   | rfl
   | omega
   | assumption
   | exact List.Perm.refl _
   | exact bt gv.c.u
   | trivial
   | exact K.1
   | exact K.2.1
   | exact K.2.2
   | exact hbn2.symm
   | exact gg.i
   | exact gg.g
 ·rw [Um (by omega), if_pos h.1] at hA hS; rw [hA, hS]
  repeat' refine And.intro ?_ ?_
  all_goals first
   | rfl
   | omega
   | assumption
   | exact List.Perm.refl _
   | exact bt gv.c.u
   | trivial
   | exact K.1
   | exact K.2.1
   | exact K.2.2
   | exact hbn2.symm
   | exact gg.i
   | exact gg.g
 ·have e1 : ¬ dec (eg (qb (cc p 9)) (cc p 9).T.length) = true := fun q => h.1 (KW.2 (al.1 q)); rw [Um (by omega), if_neg (by rw [h.2.1]; exact fun q => by cases q), if_neg e1] at hA hS; rw [hA, hS]
  have e2 := Hn p2; have e3 : fY ⟨s.h.B, s.h.n, s.h.I, s.h.A⟩ := gv; simp only [Tu, List.length_map]
  repeat' refine And.intro ?_ ?_
  all_goals first
   | rfl
   | omega
   | assumption
   | exact List.Perm.refl _
   | exact bt gv.c.u
   | trivial
   | exact K.1
   | exact K.2.1
   | exact K.2.2
   | exact hbn2.symm
   | exact gg.i
   | exact gg.g
 ·have e1 : dec (eg (qb (cc p 9)) (cc p 9).T.length) = true := al.2 (KW.1 h.1); rw [Um (by omega), if_neg (by rw [h.2.1]; exact fun q => by cases q), if_pos e1] at hA hS; rw [hA, hS]
  have e2 := Hn p2; have e3 : fY ⟨s.h.B, s.h.n, s.h.I, s.h.A⟩ := gv; simp only [Tu, List.length_map]
  repeat' refine And.intro ?_ ?_
  all_goals first
   | rfl
   | omega
   | assumption
   | exact List.Perm.refl _
   | exact bt gv.c.u
   | trivial
   | exact K.1
   | exact K.2.1
   | exact K.2.2
   | exact hbn2.symm
   | exact gg.i
   | exact gg.g
 ·rw [P3 (by omega) h.1] at hA hS; rw [hA, hS]
  exact ⟨K, K, rfl, rfl, rfl, rfl, rfl, rfl, rfl, rfl, List.Perm.refl _, rfl, rfl⟩
 ·rw [Uz (by omega) h.2.1, if_pos h.1] at hA hS; rw [hA, hS]
  exact ⟨K, K, rfl, rfl, rfl, rfl, rfl, rfl, rfl, rfl, List.Perm.refl _, rfl, rfl⟩
 ·rw [Uz (by omega) h.2.2.1, if_neg (by rw [h.2.1]; exact fun q => by cases q), if_pos ((eX gg gr gv).1 h.1)] at hA hS; rw [hA, hS]
  exact ⟨K, K, rfl, rfl, rfl, rfl, rfl, rfl, rfl, rfl, List.Perm.refl _, rfl, rfl⟩
 ·obtain ⟨hh2, hcl, hgd, h1, _⟩ := h; have hc : jt (dM p) (.s (bd p)) := mO hgd K; have e1 : jN s.h (.s (bd p)) (dM p) = p7 (bV s.h (.s (bd p)) (dM p)) s.h.n := rfl; rw [Uz (by omega) hgd, if_neg (by rw [hcl]; exact fun q => by cases q), if_neg fun q => hh2 ((eX gg gr gv).2 q), show jN s.h (hZ p) (dM p) = _ from e1] at hA hS; rw [hA, hS]
  have hin2 := (sh gv.c hh2 hc).dK; have hbn := gv.c.dK.n; have htk : (List.take s.h.n s.h.B).length <= s.h.n := by rw [List.length_take]; omega
  repeat' refine And.intro ?_ ?_
  all_goals first
   | rfl
   | omega
   | assumption
   | exact List.Perm.refl _
   | exact bt gv.c.u
   | trivial
   | exact K.1
   | exact K.2.1
   | exact K.2.2
   | exact hbn2.symm
   | exact gg.i
   | exact gg.g
 ·rw [P3 (by omega) h.1] at hA hS; rw [hA, hS]
  exact ⟨K, K, rfl, rfl, rfl, rfl, rfl, rfl, rfl, rfl, List.Perm.refl _, rfl, rfl⟩
 ·obtain ⟨h1, h2, h3, hgd, h4, _⟩ := h; have q := (eX gg gr gv).1 h3; obtain ⟨i, hi, e1, e2, e3, e4, e5, e6⟩ := get_at gg gr gv q; have hm1 : ((s.h.n : Int) - 1).toNat = s.h.n - 1 := by omega
  have eo : je s.h (fX s.h (hZ p)).toNat = dS s.h (s.h.n - 1) := by
   unfold je; rw [if_pos]; show (fX s.h (.s (bd p))).toNat = _; omega
  rw [RJ (by omega) hgd, if_pos q, eo] at hA hS; rw [hA, hS]
  rw [hm1]; have x1 := gv.c.dK.i (s.h.n - 1) (by omega)
  have hbn := gv.c.dK.n; have hbn2 : ((s.h.n - 1 : Nat) : Int) = (s.h.n : Int) - 1 := by omega
  repeat' refine And.intro ?_ ?_
  all_goals first
   | rfl
   | omega
   | assumption
   | exact List.Perm.refl _
   | exact bt gv.c.u
   | trivial
   | exact K.1
   | exact K.2.1
   | exact K.2.2
   | exact hbn2.symm
   | exact gg.i
   | exact gg.g
 ·exfalso; obtain ⟨h1, h2, h3, _⟩ := h; obtain ⟨i, hi, _⟩ := get_at gg gr gv ((eX gg gr gv).1 h3); exact h1 (gv.c.dK.k _ (by omega))
 ·have hk := (eX gg gr gv).1 (show 0 <= aQ KQ.s (Dv.s (bd p)) s.h.I by first | exact h.2.2.2.2.1 | exact h.2.2.2.2.2.1 | exact h.2.2.2.1)
  obtain ⟨i, hi, e1, e2, e3, e4, e5, e6⟩ := get_at gg gr gv hk; have hm1 : (s.h.n : Int) - 1 = ((s.h.n - 1 : Nat) : Int) := by omega
  have ec : cc (row (.t s.h.A) (dN (.t s.h.I) (.s (bd p))).toNat) 1 = .i (i : Int) := by rw [<- e3]; exact gv.c.p i hi
  simp only [e1, hm1, ec, Int.toNat_natCast, yA] at h ⊢; simp only [yH, JK] at h ⊢; simp only [Av, Ak, Bo, Bc, Bn, rL, oz] at h ⊢; obtain ⟨h1, h2, h3, h4, h5, h6, hgd, h7, _⟩ := h; have hbn := gv.c.dK.n; have hne : i ≠ s.h.n - 1 := fun q => h5 (by rw [q])
  have hm : s.h.n - 1 < s.h.n := by omega
  have c := fj gv.c hi hm; have hb : s.h.n - 1 < s.h.B.length := by omega
  have hpd : cz lh (bo s.h i (s.h.n - 1)).ob (s.h.n - 1) i := by
   rw [jk (by omega) hb]
   refine dB j6 ?_ (by omega)
   rw [show s.h.n - 1 + 1 = s.h.n by omega]
   exact gv.hp
  obtain ⟨u, _⟩ := iP c (j := i) (m := s.h.n - 1) hi (by show s.h.n - 1 <= s.h.n; omega) hpd
  have x1 := c.dK.i (s.h.n - 1) hm; have x2 := c.dK.i i hi; have x3 := u.c.dK.i (s.h.n - 1) (by rw [u.n]; exact hm)
  have x4 : (cU (bo s.h i (s.h.n - 1)) (s.h.n - 1) i).B.length = s.h.B.length := u.b.trans fq
  have eo : je s.h (fX s.h (hZ p)).toNat = dS (cU (bo s.h i (s.h.n - 1)) (s.h.n - 1) i) (s.h.n - 1) := by
   rw [show fX s.h (hZ p) = i from e1, Int.toNat_natCast]; unfold je gC; rw [if_neg hne, if_pos (by omega)]
  rw [RJ (by omega) hgd, if_pos hk, eo] at hA hS; rw [hA, hS]
  repeat' refine And.intro ?_ ?_
  all_goals first
   | rfl
   | omega
   | assumption
   | exact x1
   | exact x2
   | exact x3
   | exact c.dK
   | exact List.Perm.refl _
   | trivial
   | exact K.1
   | exact K.2.1
   | exact K.2.2
 ·exfalso; have hd := h; have hk := (eX gg gr gv).1 (show 0 <= aQ KQ.s (Dv.s (bd p)) s.h.I by first | exact h.2.2.2.2.1 | exact h.2.2.2.2.2.1 | exact h.2.2.2.1)
  obtain ⟨i, hi, e1, e2, e3, e4, e5, e6⟩ := get_at gg gr gv hk; have hm1 : (s.h.n : Int) - 1 = ((s.h.n - 1 : Nat) : Int) := by omega
  have ec : cc (row (.t s.h.A) (dN (.t s.h.I) (.s (bd p))).toNat) 1 = .i (i : Int) := by rw [<- e3]; exact gv.c.p i hi
  simp only [e1, hm1, ec, Int.toNat_natCast, yA] at h ⊢; simp only [yH, JK] at h ⊢
  try simp only [Av, Ak, Bo, Bc, Bn, rL, oz] at h ⊢
  have hbn := gv.c.dK.n; have hm : s.h.n - 1 < s.h.n := by omega
  have c := fj gv.c hi hm; have hb : s.h.n - 1 < s.h.B.length := by omega
  have hpd : cz lh (bo s.h i (s.h.n - 1)).ob (s.h.n - 1) i := by
   rw [jk (by omega) hb]
   refine dB j6 ?_ (by omega)
   rw [show s.h.n - 1 + 1 = s.h.n by omega]
   exact gv.hp
  obtain ⟨u, pu, _, pj⟩ := iP c (j := i) (m := s.h.n - 1) hi (by show s.h.n - 1 <= s.h.n; omega) hpd
  obtain ⟨h1, h2, h3, h4, h5, _⟩ := h; have hne : i ≠ s.h.n - 1 := fun q => h5 (by rw [q])
  have x0 := c.dK.k (s.h.n - 1) hm
  first
   | exact h1 (u.c.dK.k (s.h.n - 1) (by rw [u.n]; exact hm))
   | exact h1 x0
 ·have hd := h; have hk := (eX gg gr gv).1 (show 0 <= aQ KQ.s (Dv.s (bd p)) s.h.I by first | exact h.2.2.2.2.1 | exact h.2.2.2.2.2.1 | exact h.2.2.2.1)
  obtain ⟨i, hi, e1, e2, e3, e4, e5, e6⟩ := get_at gg gr gv hk; have hm1 : (s.h.n : Int) - 1 = ((s.h.n - 1 : Nat) : Int) := by omega
  have ec : cc (row (.t s.h.A) (dN (.t s.h.I) (.s (bd p))).toNat) 1 = .i (i : Int) := by rw [<- e3]; exact gv.c.p i hi
  simp only [e1, hm1, ec, Int.toNat_natCast, yA] at h ⊢; simp only [yH, JK] at h ⊢
  try simp only [Av, Ak, Bo, Bc, Bn, rL, oz] at h ⊢
  have hbn := gv.c.dK.n; have hm : s.h.n - 1 < s.h.n := by omega
  have c := fj gv.c hi hm; have hb : s.h.n - 1 < s.h.B.length := by omega
  have hpd : cz lh (bo s.h i (s.h.n - 1)).ob (s.h.n - 1) i := by
   rw [jk (by omega) hb]
   refine dB j6 ?_ (by omega)
   rw [show s.h.n - 1 + 1 = s.h.n by omega]
   exact gv.hp
  obtain ⟨u, pu, _, pj⟩ := iP c (j := i) (m := s.h.n - 1) hi (by show s.h.n - 1 <= s.h.n; omega) hpd
  obtain ⟨h1, h2, h3, h4, h5, h6, hgd, h7, _⟩ := h; have hne : i ≠ s.h.n - 1 := fun q => h5 (by rw [q])
  have hni : ¬ i < B7 (bo s.h i (s.h.n - 1)) (s.h.n - 1) i := by omega
  have pu2 := pu; rw [pj hni] at pu2; obtain ⟨w, _⟩ := Bg u.c (j := i) (m := s.h.n - 1) (by omega) (by rw [u.n]; show s.h.n - 1 <= s.h.n; omega) pu2
  have x1 := c.dK.i (s.h.n - 1) hm; have x2 := c.dK.i i hi; have x3 := w.c.dK.i (s.h.n - 1) (by rw [w.n, u.n]; exact hm)
  have x4 : (p7 (cU (bo s.h i (s.h.n - 1)) (s.h.n - 1) i) i).B.length = s.h.B.length := w.b.trans (u.b.trans fq); have x5 : (cU (bo s.h i (s.h.n - 1)) (s.h.n - 1) i).B.length = s.h.B.length := u.b.trans fq; have x6 : (cU (bo s.h i (s.h.n - 1)) (s.h.n - 1) i).A.length = s.h.A.length := u.l.trans jX; have x7 := u.c.dK
  have eo : je s.h (fX s.h (hZ p)).toNat = dS (p7 (cU (bo s.h i (s.h.n - 1)) (s.h.n - 1) i) i) (s.h.n - 1) := by
   rw [show fX s.h (hZ p) = i from e1, Int.toNat_natCast]; unfold je gC; rw [if_neg hne, if_neg (by omega)]
  rw [RJ (by omega) hgd, if_pos hk, eo] at hA hS; rw [hA, hS]
  repeat' refine And.intro ?_ ?_
  all_goals first
   | rfl
   | omega
   | assumption
   | exact x1
   | exact x2
   | exact x3
   | exact x7
   | exact c.dK
   | exact List.Perm.refl _
   | trivial
   | exact K.1
   | exact K.2.1
   | exact K.2.2
 ·exfalso; have hk := (eX gg gr gv).1 (show 0 <= aQ KQ.s (Dv.s (bd p)) s.h.I by first | exact h.2.2.2.2.1 | exact h.2.2.2.2.2.1 | exact h.2.2.2.1)
  obtain ⟨i, hi, e1, e2, e3, e4, e5, e6⟩ := get_at gg gr gv hk; have hm1 : (s.h.n : Int) - 1 = ((s.h.n - 1 : Nat) : Int) := by omega
  have ec : cc (row (.t s.h.A) (dN (.t s.h.I) (.s (bd p))).toNat) 1 = .i (i : Int) := by rw [<- e3]; exact gv.c.p i hi
  simp only [e1, hm1, ec, Int.toNat_natCast, yA] at h ⊢; simp only [yH, JK] at h ⊢
  try simp only [Av, Ak, Bo, Bc, Bn, rL, oz] at h ⊢
  have hbn := gv.c.dK.n; have hm : s.h.n - 1 < s.h.n := by omega
  have c := fj gv.c hi hm; have hb : s.h.n - 1 < s.h.B.length := by omega
  have hpd : cz lh (bo s.h i (s.h.n - 1)).ob (s.h.n - 1) i := by
   rw [jk (by omega) hb]
   refine dB j6 ?_ (by omega)
   rw [show s.h.n - 1 + 1 = s.h.n by omega]
   exact gv.hp
  obtain ⟨u, pu, _, pj⟩ := iP c (j := i) (m := s.h.n - 1) hi (by show s.h.n - 1 <= s.h.n; omega) hpd
  obtain ⟨h1, h2, h3, h4, h5, _⟩ := h; have hne : i ≠ s.h.n - 1 := fun q => h5 (by rw [q])
  have hni : ¬ i < B7 (bo s.h i (s.h.n - 1)) (s.h.n - 1) i := by omega
  have pu2 := pu; rw [pj hni] at pu2; obtain ⟨w, _⟩ := Bg u.c (j := i) (m := s.h.n - 1) (by omega) (by rw [u.n]; show s.h.n - 1 <= s.h.n; omega) pu2
  exact h1 (w.c.dK.k (s.h.n - 1) (by rw [w.n, u.n]; exact hm))
 ·have hd := h; exfalso; have hk := (eX gg gr gv).1 (show 0 <= aQ KQ.s (Dv.s (bd p)) s.h.I by first | exact h.2.2.2.2.1 | exact h.2.2.2.2.2.1 | exact h.2.2.2.1)
  obtain ⟨i, hi, e1, e2, e3, e4, e5, e6⟩ := get_at gg gr gv hk; have hm1 : (s.h.n : Int) - 1 = ((s.h.n - 1 : Nat) : Int) := by omega
  have ec : cc (row (.t s.h.A) (dN (.t s.h.I) (.s (bd p))).toNat) 1 = .i (i : Int) := by rw [<- e3]; exact gv.c.p i hi
  simp only [e1, hm1, ec, Int.toNat_natCast, yA] at h ⊢; simp only [yH, JK] at h ⊢
  try simp only [Av, Ak, Bo, Bc, Bn, rL, oz] at h ⊢
  have hbn := gv.c.dK.n; have hm : s.h.n - 1 < s.h.n := by omega
  have c := fj gv.c hi hm; have hb : s.h.n - 1 < s.h.B.length := by omega
  have hpd : cz lh (bo s.h i (s.h.n - 1)).ob (s.h.n - 1) i := by
   rw [jk (by omega) hb]
   refine dB j6 ?_ (by omega)
   rw [show s.h.n - 1 + 1 = s.h.n by omega]
   exact gv.hp
  obtain ⟨u, pu, _, pj⟩ := iP c (j := i) (m := s.h.n - 1) hi (by show s.h.n - 1 <= s.h.n; omega) hpd
  obtain ⟨h1, h2, _⟩ := h; exact h1 (c.dK.k (s.h.n - 1) hm)
 ·have hd := h; exfalso; have hk := (eX gg gr gv).1 (show 0 <= aQ KQ.s (Dv.s (bd p)) s.h.I from h.2.2.1); obtain ⟨i, hi, e1, e2, e3, e4, e5, e6⟩ := get_at gg gr gv hk; have hm1 : (s.h.n : Int) - 1 = ((s.h.n - 1 : Nat) : Int) := by omega
  have ec : cc (row (.t s.h.A) (dN (.t s.h.I) (.s (bd p))).toNat) 1 = .i (i : Int) := by rw [<- e3]; exact gv.c.p i hi
  simp only [e1, hm1, ec, Int.toNat_natCast, yA] at h ⊢
  try simp only [yH, JK] at h ⊢
  have hbn := gv.c.dK.n; have hm : s.h.n - 1 < s.h.n := by omega
  have c := fj gv.c hi hm; have hb : s.h.n - 1 < s.h.B.length := by omega
  have hpd : cz lh (bo s.h i (s.h.n - 1)).ob (s.h.n - 1) i := by
   rw [jk (by omega) hb]
   refine dB j6 ?_ (by omega)
   rw [show s.h.n - 1 + 1 = s.h.n by omega]
   exact gv.hp
  obtain ⟨u, pu, _, pj⟩ := iP c (j := i) (m := s.h.n - 1) hi (by show s.h.n - 1 <= s.h.n; omega) hpd
  obtain ⟨h1, h2, _⟩ := h; exact h1 (c.dK.k i hi)
 ·rw [RJ (by omega) h.2.1, if_neg fun q => h.1 ((eX gg gr gv).2 q)] at hA hS; rw [hA, hS]
  repeat' refine And.intro ?_ ?_
  all_goals first
   | rfl
   | omega
   | assumption
   | exact List.Perm.refl _
   | exact bt gv.c.u
   | trivial
   | exact K.1
   | exact K.2.1
   | exact K.2.2
   | exact hbn2.symm
   | exact gg.i
   | exact gg.g
 ·have hz : s.S = [] := (lK gr).2 (by omega)
  rw [Qj (by omega), if_pos hz, if_pos h.2.1] at hA hS; rw [hA, hS]
  have e1 : eL (List.map di s.h.I) = s.S.map bP := ep gg gr gv; have e2 : s.h.I.length = s.S.length := jZ gg gr gv; have e3 : List.take s.S.length (s.S.map bP) = s.S.map bP := eF (by rw [List.length_map]; exact Nat.le_refl _)
  simp only [e1, e2, e3, List.length_map] at h ⊢
  repeat' refine And.intro ?_ ?_
  all_goals first
   | rfl
   | omega
   | assumption
   | exact List.Perm.refl _
   | exact bt gv.c.u
   | trivial
   | exact K.1
   | exact K.2.1
   | exact K.2.2
   | exact hbn2.symm
   | exact gg.i
   | exact gg.g
 ·exfalso; obtain ⟨_, _, _, h4, _, h6, _⟩ := h; have e1 : eL (List.map di s.h.I) = s.S.map bP := ep gg gr gv; have e2 : s.h.I.length = s.S.length := jZ gg gr gv; rw [e1, e2, List.length_take, List.length_map, Nat.min_self] at h6; have hz : s.S = [] := List.length_eq_zero_iff.1 (by omega)
  have := (lK gr).1 hz; omega
 ·exfalso; obtain ⟨_, _, _, h4, _, h6, _⟩ := h; have e1 : eL (List.map di s.h.I) = s.S.map bP := ep gg gr gv; have e2 : s.h.I.length = s.S.length := jZ gg gr gv; rw [e1, e2, List.length_take, List.length_map, Nat.min_self] at h6; have hz : s.S = [] := List.length_eq_zero_iff.1 (by omega)
  have := (lK gr).1 hz; omega
 ·exfalso; obtain ⟨_, _, h4, _, h6, _⟩ := h; have e1 : eL (List.map di s.h.I) = s.S.map bP := ep gg gr gv; have e2 : s.h.I.length = s.S.length := jZ gg gr gv; rw [e1, e2, List.length_take, List.length_map, Nat.min_self] at h6; have hz : s.S = [] := List.length_eq_zero_iff.1 (by omega)
  have := (lK gr).1 hz; omega
 ·exfalso; obtain ⟨_, h4, _, h6, _⟩ := h; have e1 : eL (List.map di s.h.I) = s.S.map bP := ep gg gr gv; have e2 : s.h.I.length = s.S.length := jZ gg gr gv; rw [e1, e2, List.length_take, List.length_map, Nat.min_self] at h6; have hz : s.S = [] := List.length_eq_zero_iff.1 (by omega)
  have := (lK gr).1 hz; omega
 ·have hd := h; have e1 : eL (List.map di s.h.I) = s.S.map bP := ep gg gr gv; have e2 : s.h.I.length = s.S.length := jZ gg gr gv; have e3 : List.take s.S.length (s.S.map bP) = s.S.map bP := eF (by rw [List.length_map]; exact Nat.le_refl _)
  simp only [e1, e2, e3, List.length_map] at h ⊢; have hz : s.S = [] := List.length_eq_zero_iff.1 (by omega)
  have hc : ¬ s.c = true := by rw [h.1]; exact fun q => by cases q
  rw [Qj (by omega), if_pos hz, if_neg hc] at hA hS; rw [hA, hS]
  repeat' refine And.intro ?_ ?_
  all_goals first
   | rfl
   | omega
   | assumption
   | exact List.Perm.refl _
   | exact bt gv.c.u
   | trivial
   | exact K.1
   | exact K.2.1
   | exact K.2.2
   | exact hbn2.symm
   | exact gg.i
   | exact gg.g
 ·exfalso; have e1 : eL (List.map di s.h.I) = s.S.map bP := ep gg gr gv; have hz : s.S = [] := (lK gr).2 (by omega)
  have h2 := h.2.1; rw [e1, hz] at h2; exact h2 (by simp)
 ·have hd := h; have h0 : 0 < s.h.n := by omega
  have hm1 : (s.h.n : Int) - 1 = ((s.h.n - 1 : Nat) : Int) := by omega
  simp only [hm1, Int.toNat_natCast, yA] at h ⊢; simp only [yH, GZ] at h ⊢
  try simp only [Av, Ak, Bo, Bc, Bn, rL, oz] at h ⊢
  have hbn := gv.c.dK.n; have hm : s.h.n - 1 < s.h.n := by omega
  have c := fj gv.c h0 hm; have hb : s.h.n - 1 < s.h.B.length := by omega
  have hpd : cz lh (bo s.h 0 (s.h.n - 1)).ob (s.h.n - 1) 0 := by
   rcases Nat.eq_zero_or_pos (s.h.n - 1) with q | q
   ·rw [q]; exact ⟨fun k k0 kn => by omega, fun q => absurd q (Nat.lt_irrefl _)⟩
   ·rw [jk (by omega) hb]
    refine dB j6 ?_ q; rw [show s.h.n - 1 + 1 = s.h.n by omega]
    exact gv.hp
  obtain ⟨u, pu, _, pj⟩ := iP c (j := 0) (m := s.h.n - 1) h0 (by show s.h.n - 1 <= s.h.n; omega) hpd
  have ho := OO gv h0 u.m u.c hm (vv (j := 0) (m := s.h.n - 1) (by show s.h.n - 1 <= (zG s.h.B 0 (s.h.n - 1)).length; rw [fq]; omega) _ _ (Nat.le_refl _) (Nat.le_refl _))
  have hz : s.S ≠ [] := fun q => h.2.2.2.1 (by have := (lK gr).1 q; omega)
  obtain ⟨pa, pb, pc⟩ := L7 gv h0; obtain ⟨ra, rb⟩ := yg gg gr gv h0 pc; have x1 := c.dK.i (s.h.n - 1) hm; have x2 := c.dK.i 0 h0; have x3 := u.c.dK.i (s.h.n - 1) (by rw [u.n]; exact hm)
  have x4 : (cU (bo s.h 0 (s.h.n - 1)) (s.h.n - 1) 0).B.length = s.h.B.length := u.b.trans fq; have x5 : (cU (bo s.h 0 (s.h.n - 1)) (s.h.n - 1) 0).A.length = s.h.A.length := u.l.trans jX; have x6 : jg ((cU (bo s.h 0 (s.h.n - 1)) (s.h.n - 1) 0).ob (s.h.n - 1)) := by rw [ho]; exact gv.c.dK.o 0 h0
  have x7 : eight ((cU (bo s.h 0 (s.h.n - 1)) (s.h.n - 1) 0).ob (s.h.n - 1)) = row (.t s.S) (bL (.t s.S) s.S.length) := by rw [ho]; exact ra
  rw [Qj (by omega), if_neg hz, <- x7] at hA hS; rw [hA, hS]
  have e1 : eL (List.map di s.h.I) = s.S.map bP := ep gg gr gv; have e2 : s.h.I.length = s.S.length := jZ gg gr gv; have e3 : List.take s.S.length (s.S.map bP) = s.S.map bP := eF (by rw [List.length_map]; exact Nat.le_refl _)
  simp only [e1, e2, e3, List.length_map] at h ⊢; have x8 : (decide (0 < (s.h.n : Int)) || s.c) = true := by rw [decide_eq_true (show 0 < (s.h.n : Int) by omega)]; rfl
  repeat' refine And.intro ?_ ?_
  all_goals first
   | rfl
   | omega
   | assumption
   | exact x6.1
   | exact x6.2.1
   | exact x6.2.2
   | exact bt gv.c.u
   | exact x1
   | exact x2
   | exact x3
   | exact x6
   | exact c.dK
   | exact u.c.dK
   | exact List.Perm.refl _
   | trivial
   | exact K.1
   | exact K.2.1
   | exact K.2.2
 ·exfalso; have h0 : 0 < s.h.n := by omega
  have hm1 : (s.h.n : Int) - 1 = ((s.h.n - 1 : Nat) : Int) := by omega
  simp only [hm1, Int.toNat_natCast, yA] at h ⊢; simp only [yH, GZ] at h ⊢
  try simp only [Av, Ak, Bo, Bc, Bn, rL, oz] at h ⊢
  have hbn := gv.c.dK.n; have hm : s.h.n - 1 < s.h.n := by omega
  have c := fj gv.c h0 hm; have hb : s.h.n - 1 < s.h.B.length := by omega
  have hpd : cz lh (bo s.h 0 (s.h.n - 1)).ob (s.h.n - 1) 0 := by
   rcases Nat.eq_zero_or_pos (s.h.n - 1) with q | q
   ·rw [q]; exact ⟨fun k k0 kn => by omega, fun q => absurd q (Nat.lt_irrefl _)⟩
   ·rw [jk (by omega) hb]
    refine dB j6 ?_ q; rw [show s.h.n - 1 + 1 = s.h.n by omega]
    exact gv.hp
  obtain ⟨u, pu, _, pj⟩ := iP c (j := 0) (m := s.h.n - 1) h0 (by show s.h.n - 1 <= s.h.n; omega) hpd
  exact h.1 (u.c.dK.k (s.h.n - 1) (by rw [u.n]; exact hm))
 ·exfalso; have h0 : 0 < s.h.n := by omega
  have hm1 : (s.h.n : Int) - 1 = ((s.h.n - 1 : Nat) : Int) := by omega
  simp only [hm1, Int.toNat_natCast, yA] at h ⊢; simp only [yH, GZ] at h ⊢
  try simp only [Av, Ak, Bo, Bc, Bn, rL, oz] at h ⊢
  have hbn := gv.c.dK.n; have hm : s.h.n - 1 < s.h.n := by omega
  have c := fj gv.c h0 hm; have hb : s.h.n - 1 < s.h.B.length := by omega
  have hpd : cz lh (bo s.h 0 (s.h.n - 1)).ob (s.h.n - 1) 0 := by
   rcases Nat.eq_zero_or_pos (s.h.n - 1) with q | q
   ·rw [q]; exact ⟨fun k k0 kn => by omega, fun q => absurd q (Nat.lt_irrefl _)⟩
   ·rw [jk (by omega) hb]
    refine dB j6 ?_ q; rw [show s.h.n - 1 + 1 = s.h.n by omega]
    exact gv.hp
  obtain ⟨u, pu, _, pj⟩ := iP c (j := 0) (m := s.h.n - 1) h0 (by show s.h.n - 1 <= s.h.n; omega) hpd
  exact h.1 (c.dK.k (s.h.n - 1) hm)
 ·exfalso; have h0 : 0 < s.h.n := by omega
  have hm1 : (s.h.n : Int) - 1 = ((s.h.n - 1 : Nat) : Int) := by omega
  simp only [hm1, Int.toNat_natCast, yA] at h ⊢; simp only [yH, GZ] at h ⊢
  try simp only [Av, Ak, Bo, Bc, Bn, rL, oz] at h ⊢
  have hbn := gv.c.dK.n; have hm : s.h.n - 1 < s.h.n := by omega
  have c := fj gv.c h0 hm; have hb : s.h.n - 1 < s.h.B.length := by omega
  have hpd : cz lh (bo s.h 0 (s.h.n - 1)).ob (s.h.n - 1) 0 := by
   rcases Nat.eq_zero_or_pos (s.h.n - 1) with q | q
   ·rw [q]; exact ⟨fun k k0 kn => by omega, fun q => absurd q (Nat.lt_irrefl _)⟩
   ·rw [jk (by omega) hb]
    refine dB j6 ?_ q; rw [show s.h.n - 1 + 1 = s.h.n by omega]
    exact gv.hp
  obtain ⟨u, pu, _, pj⟩ := iP c (j := 0) (m := s.h.n - 1) h0 (by show s.h.n - 1 <= s.h.n; omega) hpd
  exact h.1 (c.dK.k 0 h0)
 ·rw [afX (by omega)] at hA hS; rw [hA, hS]
  have e4 := JO gg gr gv; have e5 := P2 gg gr gv
  have e6 : (RX (.t (s.S.map bP)) (.t s.h.I) (.t s.h.A)).length = s.S.length := by
   have := congrArg List.length e4; rwa [List.length_map] at this
  have e7 := gg.agN; have e1 : eL (List.map di s.h.I) = s.S.map bP := ep gg gr gv; have e2 : s.h.I.length = s.S.length := jZ gg gr gv; have e3 : List.take s.S.length (s.S.map bP) = s.S.map bP := eF (by rw [List.length_map]; exact Nat.le_refl _)
  simp only [e1, e2, e3, List.length_map] at h ⊢; simp only [e4, e6]
  repeat' refine And.intro ?_ ?_
  all_goals first
   | rfl
   | omega
   | assumption
   | exact List.Perm.refl _
   | exact bt gv.c.u
   | trivial
   | exact K.1
   | exact K.2.1
   | exact K.2.2
   | exact hbn2.symm
   | exact gg.i
   | exact gg.g
 ·rw [agH (by omega)] at hA hS; rw [hA, hS]
  have e7 := yZ gg.i; have e1 : eL (List.map di s.h.I) = s.S.map bP := ep gg gr gv; have e2 : s.h.I.length = s.S.length := jZ gg gr gv; have e3 : List.take s.S.length (s.S.map bP) = s.S.map bP := eF (by rw [List.length_map]; exact Nat.le_refl _)
  simp only [e1, e2, e3, List.length_map] at h ⊢; simp only [e7]
  repeat' refine And.intro ?_ ?_
  all_goals first
   | rfl
   | omega
   | assumption
   | exact List.Perm.refl _
   | exact bt gv.c.u
   | trivial
   | exact K.1
   | exact K.2.1
   | exact K.2.2
   | exact hbn2.symm
   | exact gg.i
   | exact gg.g
 ·rw [P3 (by omega) h.1] at hA hS; rw [hA, hS]
  repeat' refine And.intro ?_ ?_
  all_goals first
   | rfl
   | omega
   | assumption
   | exact List.Perm.refl _
   | exact bt gv.c.u
   | trivial
   | exact K.1
   | exact K.2.1
   | exact K.2.2
   | exact hbn2.symm
   | exact gg.i
   | exact gg.g
 ·have q := (eX gg gr gv).1 h.1; obtain ⟨i, hi, e1, e2, e3, e4, e5, e6⟩ := get_at gg gr gv q; obtain ⟨hl2, _⟩ := mu q; have ho := go _ (ef (d := .t s.S) hl2); rw [aeh (by omega) h.2.1, if_pos q] at hA hS; rw [hA, hS]
  rw [<- e6] at ho ⊢; refine ⟨ho, ?_⟩
  repeat' refine And.intro ?_ ?_
  all_goals first
   | rfl
   | omega
   | assumption
   | exact List.Perm.refl _
   | exact bt gv.c.u
   | trivial
   | exact K.1
   | exact K.2.1
   | exact K.2.2
   | exact hbn2.symm
   | exact gg.i
   | exact gg.g
 ·rw [aeh (by omega) h.2.1, if_neg fun q => h.1 ((eX gg gr gv).2 q)] at hA hS; rw [hA, hS]
  repeat' refine And.intro ?_ ?_
  all_goals first
   | rfl
   | omega
   | assumption
   | exact List.Perm.refl _
   | exact bt gv.c.u
   | trivial
   | exact K.1
   | exact K.2.1
   | exact K.2.2
   | exact hbn2.symm
   | exact gg.i
   | exact gg.g
 ·rw [Yi] at h; have q := (eX gg gr gv).1 h.1; obtain ⟨i, hi, e1, e2, e3, e4, e5, e6⟩ := get_at gg gr gv q; obtain ⟨hl2, _⟩ := mu q; have ho := go _ (ef (d := .t s.S) hl2); rw [SQ (by omega), if_pos q] at hA hS; rw [hA, hS]
  rw [<- e6] at ho ⊢; rw [<- af1] at ho e4 ⊢; refine ⟨ho, ?_⟩
  repeat' refine And.intro ?_ ?_
  all_goals first
   | rfl
   | omega
   | assumption
   | exact List.Perm.refl _
   | exact bt gv.c.u
   | trivial
   | exact K.1
   | exact K.2.1
   | exact K.2.2
   | exact hbn2.symm
   | exact gg.i
   | exact gg.g
 ·rw [Yi] at h; rw [SQ (by omega), if_neg fun q => h.1 ((eX gg gr gv).2 q)] at hA hS; rw [hA, hS]
  repeat' refine And.intro ?_ ?_
  all_goals first
   | rfl
   | omega
   | assumption
   | exact List.Perm.refl _
   | exact bt gv.c.u
   | trivial
   | exact K.1
   | exact K.2.1
   | exact K.2.2
   | exact hbn2.symm
   | exact gg.i
   | exact gg.g
 ·rw [agV (by omega)] at hA hS; rw [hA, hS]
  repeat' refine And.intro ?_ ?_
  all_goals first
   | rfl
   | omega
   | assumption
   | exact List.Perm.refl _
   | exact bt gv.c.u
   | trivial
   | exact K.1
   | exact K.2.1
   | exact K.2.2
   | exact hbn2.symm
   | exact gg.i
   | exact gg.g
 ·rw [afA (by omega)] at hA hS; rw [hA, hS]
  repeat' refine And.intro ?_ ?_
  all_goals first
   | rfl
   | omega
   | assumption
   | exact List.Perm.refl _
   | exact bt gv.c.u
   | trivial
   | exact K.1
   | exact K.2.1
   | exact K.2.2
   | exact hbn2.symm
   | exact gg.i
   | exact gg.g
theorem On (hu : OU o) (hv : OV o) (hh : OH o) (hj : OJ o) {r : Nat} (hr : o.v 2207 = .i r) (hent : (Gz.aU 0).ay o) (hle : (r : Int) <= ((aB (.v 7780)).den o).I) : bn o Uk := by
 refine oY (G7 hu hv hh hj hr hent hle hr) ?_; simp only [Gz, D8, cP, aB, pk, List.foldr, SS, implies_true, hj.hp, al] at hent hle; obtain ⟨hf, hlen⟩ := hent; obtain ⟨gg, go, gl, gv, gr, gn, gb, gi, ga⟩ := lP hf r (by omega)
 simp only [af, au, and_true]; intro h
 all_goals simp only [SS, implies_true, hr, hh.all, hu.mr, hu.Lb, hu.I9, hu.ME, hu.jq, hu.mV, hu.IG, hv.OY, hv.Kc, hv.Of, hv.IQ, hv.Pv, hj.hb, hj.hp, CP, al, cD, Classical.not_not, Qd, Xh, P1, PV, tnn, tni] at h ⊢
 have e : r = (o.v 7780).T.length := by omega
 have e2 := @kC (o.v 7780); refine ⟨?_, ?_, ?_⟩
 all_goals first
  | (rw [<- e]; done)
  | exact eF (by rw [e2]; omega)
  | (rw [e2]; omega)
theorem QR (hu : OU o) (hv : OV o) (hh : OH o) (hj : OJ o) {r : Nat} (hr : o.v 2207 = .i r) (hent : (Gz.aU 0).ay o) (hmf : (Gz.mf 0).ay o) (hle : (r : Int) <= ((aB (.v 7780)).den o).I) : bn o Yh := by
 have hmf : aa.ay o [(.o2 .aN (.v 2207) (.il 0), true)] := hmf; simp only [SS, implies_true, hr] at hmf; have hr0 : r = 0 := by omega
 refine oY (G7 hu hv hh hj hr hent hle (by rw [hr0]; rfl)) ?_
 simp only [Gz, D8, cP, aB, pk, List.foldr, SS, implies_true, hj.hp, al] at hent hle; obtain ⟨hf, hlen⟩ := hent; obtain ⟨gg, go, gl, gv, gr, gn, gb, gi, ga⟩ := lP hf r (by omega)
 simp only [af, au, and_true]; intro h
 all_goals simp only [SS, implies_true, hr, hh.all, hu.mr, hu.Lb, hu.I9, hu.ME, hu.jq, hu.mV, hu.IG, hv.OY, hv.Kc, hv.Of, hv.IQ, hv.Pv, hj.hb, hj.hp, CP, al, cD, Classical.not_not, Qd, Xh, P1, PV, tnn, tni] at h ⊢
 have e : r = (o.v 7780).T.length := by omega
 have : (kY (o.v 7780)).length = 0 := by rw [kC]; omega
 exact ⟨(List.length_eq_zero_iff.1 this).symm, by rw [<- e]⟩
end
end Go.Proofs.YtdlppkhmmclipaaGreat.sxObj
namespace Go.Proofs.YtdlppkhmmclipaaGreat.sxObj
open Go.Sx
set_option linter.unusedVariables false
set_option maxRecDepth 100000
def PN : List (aa × List Ob) :=
 [([], oO (.o2 .aN (.o1 .ab (.v 2202)) (.o1 .ab (.v 7740))) (oP (.v 2202) (.uf 200 (eP (.v 7740) (.il 0))) []))]
def Qm : List (aa × List Ob) :=
 [(fT (.o2 .le (.il 0) (.o2 (.mf .s) (.v 7740) (.v 7749))) [], oO (.o2 .le (.o1 .ab (.v 2202)) (.il 2147483648)) [])]
abbrev oq0 : E := .o2 (.mf .s) (.v 7751) (eC 0 (.v 7750) (.v 2203))
abbrev oq1 : E := .o2 .lt (.v 2203) (.o1 .ab (.v 7750))
abbrev oq2 : E := eC 1 (.v 7751) oq0
abbrev oq3 : E := .uf 300 (eP (.v 7750) (eP (.v 7751) (eP (.v 7752) (.il 0))))
def hlL : List (aa × List Ob) :=
 [(fT (.o2 .le (.il 0) oq0) (fT oq1 []), oO (.o2 .le (.il 0) oq2) (oO (.o2 .le (.il 0) oq2) (oO (.o2 .le (.il 0) oq2) (oT (eC 0 (.v 7752) oq2) (eC 0 oq3 (.v 2203)) [])))),
  (fF (.o2 .le (.il 0) oq0) (fT oq1 []), oO (.bl false) []),
  (fF oq1 [], oO (.o2 .le (.v 2203) (.o1 .ab oq3)) (oT (.o2 .cJ oq3 (.v 2203)) oq3 []))]
abbrev oq4 : E := .o2 .lt (.v 2204) (.o1 .ab (.v 7757))
def hkL : List (aa × List Ob) :=
 [(fT oq4 [], []),
  (fF oq4 [], oT (.o2 .cJ (.v 7757) (.v 2204)) (.v 7757) [])]
def hwL : List (aa × List Ob) :=
 [(fT (.v 7761) (fT (.o2 .aN (.v 7760) (.il 0)) []), []),
  (fF (.o2 .aN (.v 7760) (.il 0)) [], [])]
end Go.Proofs.YtdlppkhmmclipaaGreat.sxObj
namespace Go.Proofs.YtdlppkhmmclipaaGreat.sxObj
open Go.Sx Go.RowKit Go.Proofs.YtdlppkhmmclipaaGreat
set_option linter.unusedVariables false
set_option linter.unusedSimpArgs false
set_option maxRecDepth 100000
section
variable {o : Env}
theorem Kj (f : FuncId) : dZ Tryz.prog o f KM := by
 intro w0 args nx p h r h' nx' hp hr; have e : Prog.fail "never" = p := Option.some.inj hp; rw [<- e] at hr; exact absurd hr id
theorem V3 : N8.iK Tryz.prog = some Vy := by kernel_rfl
theorem Rp (hu : OU o) : dZ Tryz.prog o Ql N8.aS :=
 cv plain mixed (D := N8) V3 (fun e A he => br (c := ⟨[(tz, qK.aS)], []⟩) (by kernel_rfl) ⟨zF (hu.aA he), trivial⟩ trivial A) (fun e he h => OW)
theorem vu (hu : OU o) (A : Anchor) : ez Tryz.prog o A (IS.x.cN Tryz.prog) := br (c := IS) (by kernel_rfl) ⟨Rp hu, trivial⟩ trivial A
theorem XS : gH Tryz.prog LK (.o2 .sub (.v 7202) (.v 7201)) VI := ⟨by kernel_rfl, by kernel_rfl, rfl, by kernel_rfl, rfl, fun m h => bk h, fun m h => bk h, fun _ => rfl⟩
theorem OI (hu : OU o) : dz Tryz.prog o iZ 1 LK.cW :=
 XS.ok plain mixed (fun e he h => by
  obtain ⟨_, hent⟩ := fB (hu.aA he) h; simp only [cP, aB, SS, implies_true] at hent ⊢
  omega) (fun e A he => vu (hu.aA he) A) (fun e i he h hr hl => Q4 (hu.aA he) hr h hl)
theorem XP : Gc.iK Tryz.prog = some S2 := by kernel_rfl
theorem HQ (hu : OU o) : dZ Tryz.prog o iZ Gc.aS :=
 cv plain mixed (D := Gc) XP (fun e A he => br (c := ⟨[], [(iZ, 1, LK.cW)]⟩) (by kernel_rfl) trivial ⟨OI (hu.aA he), trivial⟩ A) (fun e he h => by simp only [S2, af, au, and_true]; intro _; simp only [sa])
theorem WR : gH Tryz.prog OS (.o2 .sub (.v 7213) (.v 7212)) Vl := ⟨by kernel_rfl, by kernel_rfl, rfl, by kernel_rfl, rfl, fun m h => bk h, fun m h => bk h, fun _ => rfl⟩
theorem Qe (hu : OU o) : dz Tryz.prog o cH 3 OS.cW :=
 WR.ok plain mixed (fun e he h => by
  obtain ⟨_, hent⟩ := fB (hu.aA he) h; simp only [cP, r9, aB, SS, implies_true] at hent ⊢
  omega) (fun e A he => vu (hu.aA he) A) (fun e i he h hr hl => Pa (hu.aA he) hr h hl)
theorem U8 : gH Tryz.prog Oo (.o2 .sub (.v 7217) (.v 7216)) T4 := ⟨by kernel_rfl, by kernel_rfl, rfl, by kernel_rfl, rfl, fun m h => bk h, fun m h => bk h, fun _ => rfl⟩
theorem Ro (hu : OU o) : dz Tryz.prog o cH 15 Oo.cW :=
 U8.ok plain mixed (fun e he h => by
  obtain ⟨_, hent⟩ := fB (hu.aA he) h; simp only [cP, r9, aB, SS, implies_true] at hent ⊢
  omega) (fun e A he => vu (hu.aA he) A) (fun e i he h hr hl => O6 (hu.aA he) hr h hl)
theorem We : gH Tryz.prog Rz (.o2 .sub (.v 7222) (.v 7221)) VT := ⟨by kernel_rfl, by kernel_rfl, rfl, by kernel_rfl, rfl, fun m h => bk h, fun m h => bk h, fun _ => rfl⟩
theorem N6 (hu : OU o) : dz Tryz.prog o cH 33 Rz.cW :=
 We.ok plain mixed (fun e he h => by
  obtain ⟨_, hent⟩ := fB (hu.aA he) h; simp only [cP, r9, aB, SS, implies_true] at hent ⊢
  omega) (fun e A he => vu (hu.aA he) A) (fun e i he h hr hl => Qz (hu.aA he) hr h hl)
theorem W7 : ac9.iK Tryz.prog = some WK := by kernel_rfl
theorem HY (hu : OU o) : dZ Tryz.prog o cH CG.aS :=
 cA.YK plain mixed (D := CG) (G := 7229) (sz := DJ) (X := Yl.x.xe) W7 rfl (by kernel_rfl) (fun _ => rfl)
  (fun e A he hf => pH (c := Yl) (by kernel_rfl) ⟨Kj Hm, hf, trivial⟩ ⟨Qe (hu.aA he.uf), Ro (hu.aA he.uf), N6 (hu.aA he.uf), trivial⟩ A)
  (fun e he h => QY (hu.aA he.uf) h) (fun e he h => by
   obtain ⟨_, hent⟩ := fB (hu.aA he.uf) h; simp only [DJ, cP, r9, aB, SS, implies_true] at hent ⊢
   omega)
theorem TW : gH Tryz.prog Nq (.o2 .quo (.v 7231) (.il 20)) W2 := ⟨by kernel_rfl, by kernel_rfl, rfl, by kernel_rfl, rfl, fun m h => bk h, fun m h => bk h, fun _ => rfl⟩
theorem Rl (hu : OU o) : dz Tryz.prog o fc 2 Nq.cW :=
 TW.ok plain mixed (fun e he h => by
  obtain ⟨_, hent⟩ := fB (hu.aA he) h; simp only [cP, r9, aB, lI, SS, implies_true] at hent ⊢
  exact Int.tdiv_nonneg (by omega) (by omega)) (fun e A he => br (c := ⟨[(iZ, Gc.aS)], []⟩) (by kernel_rfl) ⟨HQ (hu.aA he), trivial⟩ trivial A) (fun e i he h hr hl => Ox (hu.aA he) hr h hl)
theorem VA : gH Tryz.prog Nz Fm X0 := ⟨by kernel_rfl, by kernel_rfl, rfl, by kernel_rfl, rfl, fun m h => bk h, fun m h => bk h, fun _ => rfl⟩
theorem O7 (hu : OU o) : dz Tryz.prog o fc 9 Nz.cW :=
 VA.ok plain mixed (fun e he h => by
  have hent : (uZ (.v 7234) ++ [(.o2 .aN (.v 7235) (aB (.v 7234)), true), cP (.il 20) (.v 7236), r9 (.v 7236) (.v 7235)]).ay e := h; obtain ⟨_, hent⟩ := fB (hu.aA he) hent; simp only [cP, r9, aB, Fm, lI, SS, implies_true] at hent ⊢
  exact Int.tdiv_nonneg (by omega) (by omega)) (fun e A he => br (c := ⟨[(cH, CG.aS)], []⟩) (by kernel_rfl) ⟨HY (hu.aA he), trivial⟩ trivial A) (fun e i he h hr hl => Rc (hu.aA he) hr h hl)
theorem Wf : gH Tryz.prog Kw (.v 7241) V8 := ⟨by kernel_rfl, by kernel_rfl, rfl, by kernel_rfl, rfl, fun m h => bk h, fun m h => bk h, fun _ => rfl⟩
theorem PE (hu : OU o) : dz Tryz.prog o fc 7 Kw.cW :=
 Wf.ok plain mixed (fun e he h => by
  obtain ⟨_, hent⟩ := fB (hu.aA he) h; simp only [cP, r9, aB, lI, SS, implies_true] at hent ⊢
  omega) (fun e A he => br (c := ⟨[(cH, CG.aS)], [(fc, 9, Nz.cW)]⟩) (by kernel_rfl) ⟨HY (hu.aA he), trivial⟩ ⟨O7 (hu.aA he), trivial⟩ A) (fun e i he h hr hl => Ow (hu.aA he) hr h hl)
theorem Jy : pJ.iK Tryz.prog = some Bh := by kernel_rfl
theorem F9 (hu : OU o) : dZ Tryz.prog o vw pJ.aS :=
 cv plain mixed (D := pJ) Jy (fun e A he => br (c := ⟨[(iZ, Gc.aS)], [(fc, 2, Nq.cW), (fc, 7, Kw.cW)]⟩) (by kernel_rfl) ⟨HQ (hu.aA he), trivial⟩ ⟨Rl (hu.aA he), PE (hu.aA he), trivial⟩ A) (fun e he h => En (hu.aA he) h)
theorem Ey : Gn Tryz.prog jy (aB (.v 7250)) sR tK := ⟨by kernel_rfl, by kernel_rfl, by kernel_rfl, rfl, rfl, by kernel_rfl, rfl, fun m h => bk h, fun m h => vF h, fun _ => rfl⟩
theorem CX (hu : OU o) : dz Tryz.prog o kV 3 jy.cW :=
 Ey.ok plain mixed (fun o _ _ => ij o) (fun e A he => br (c := ⟨[(im, ja.aS)], []⟩) (by kernel_rfl) ⟨qI (hu.aA he), trivial⟩ trivial A) (fun e he h hr _ => z7 (hu.aA he) hr h) (fun e i he h hr _ hl => A7 (hu.aA he) hr h hl)
theorem Fk : mQ.iK Tryz.prog = some tJ := by kernel_rfl
theorem C7 (hu : OU o) : dZ Tryz.prog o kV mQ.aS :=
 cv plain mixed (D := mQ) Fk (fun e A he => br (c := ⟨[(vw, pJ.aS)], [(kV, 3, jy.cW)]⟩) (by kernel_rfl) ⟨F9 (hu.aA he), trivial⟩ ⟨CX (hu.aA he), trivial⟩ A) (fun e he h => z6 (hu.aA he) h)
end
section
variable {o : Env}
theorem Zi : gH Tryz.prog YQ (Vi (.v 7300) (.v 7301) (.v 7302)) ixL := ⟨by kernel_rfl, by kernel_rfl, rfl, by kernel_rfl, rfl, fun m h => bk h, fun m h => bk h, fun _ => rfl⟩
theorem V5 (hu : OU o) : dz Tryz.prog o BO 2 YQ.cW :=
 Zi.ok plain mixed (fun e he h => by
  simp only [Vi, pk, List.foldr, SS, implies_true, (hu.aA he).QF]
  omega) (fun _ _ _ => ct) (fun e i he h hr hl => Xn (hu.aA he) hr h hl)
theorem aaH : coF.iK Tryz.prog = some coL := by kernel_rfl
theorem VH (hu : OU o) : dZ Tryz.prog o pq coF.aS :=
 cv plain mixed (D := coF) aaH (fun e A he => br (c := ⟨[], [(BO, 2, YQ.cW)]⟩) (by kernel_rfl) trivial ⟨V5 (hu.aA he), trivial⟩ A) (fun e he h => WG (hu.aA he))
theorem ab0 : gH Tryz.prog slY (aB (.v 7307)) UT := ⟨by kernel_rfl, by kernel_rfl, rfl, by kernel_rfl, rfl, fun m h => bk h, fun m h => bk h, fun _ => rfl⟩
theorem Vf (hu : OU o) : dz Tryz.prog o eO 4 slY.cW :=
 ab0.ok plain mixed (fun o _ _ => ij o) (fun e A he => br (c := ⟨[(pq, coF.aS)], []⟩) (by kernel_rfl) ⟨VH (hu.aA he), trivial⟩ trivial A) (fun e i he h hr hl => O4 (hu.aA he) hr)
theorem aeX : slF.iK Tryz.prog = some slL := by kernel_rfl
theorem WH (hu : OU o) : dZ Tryz.prog o eO slF.aS :=
 cv plain mixed (D := slF) aeX (fun e A he => br (c := ⟨[], [(eO, 4, slY.cW)]⟩) (by kernel_rfl) trivial ⟨Vf (hu.aA he), trivial⟩ A) (fun e he h => (rD (hu.aA he)).2.2.1)
theorem adI : Zw.iK Tryz.prog = some soL := by kernel_rfl
theorem UD (hu : OU o) : dZ Tryz.prog o rI Zw.aS :=
 cv plain mixed (D := Zw) adI (fun e A he => br (c := ⟨[(eO, slF.aS)], []⟩) (by kernel_rfl) ⟨WH (hu.aA he), trivial⟩ trivial A) (fun e he h => (rD (hu.aA he)).2.2.2.1)
theorem VD : gH Tryz.prog Ju (aB (HP 2)) Wb := ⟨by kernel_rfl, by kernel_rfl, rfl, by kernel_rfl, rfl, fun m h => bk h, fun m h => bk h, fun _ => rfl⟩
theorem Qw (hu : OU o) : dz Tryz.prog o ia 4 Ju.cW :=
 VD.ok plain mixed (fun o _ _ => ij o) (fun e A he => br (c := ⟨[(rI, Zw.aS)], []⟩) (by kernel_rfl) ⟨UD (hu.aA he), trivial⟩ trivial A) (fun e i he h hr hl => Oe (hu.aA he) hr h)
theorem Wp : gH Tryz.prog PW (aB (HP 3)) Ur := ⟨by kernel_rfl, by kernel_rfl, rfl, by kernel_rfl, rfl, fun m h => bk h, fun m h => bk h, fun _ => rfl⟩
theorem QA (hu : OU o) : dz Tryz.prog o ia 9 PW.cW :=
 Wp.ok plain mixed (fun o _ _ => ij o) (fun _ _ _ => ct) (fun e i he h hr hl => (rD (hu.aA he)).1)
theorem aaL : ssF.iK Tryz.prog = some ssL := by kernel_rfl
theorem UY (hu : OU o) : dZ Tryz.prog o ia ssF.aS :=
 cv plain mixed (D := ssF) aaL (fun e A he => br (c := ⟨[], [(ia, 4, Ju.cW), (ia, 9, PW.cW)]⟩) (by kernel_rfl) trivial ⟨Qw (hu.aA he), QA (hu.aA he), trivial⟩ A) (fun e he h => (rD (hu.aA he)).2.1)
theorem Y2 : gH Tryz.prog YU (aB (.v 7340)) Ul := ⟨by kernel_rfl, by kernel_rfl, rfl, by kernel_rfl, rfl, fun m h => bk h, fun m h => bk h, fun _ => rfl⟩
theorem Ud (hu : OU o) : dz Tryz.prog o qV 4 YU.cW :=
 Y2.ok plain mixed (fun o _ _ => ij o) (fun e A he => br (c := ⟨[(ia, ssF.aS)], []⟩) (by kernel_rfl) ⟨UY (hu.aA he), trivial⟩ trivial A) (fun e i he h hr hl => Uw (hu.aA he) hr h)
theorem abP : saF.iK Tryz.prog = some saL := by kernel_rfl
theorem Uj (hu : OU o) : dZ Tryz.prog o qV saF.aS :=
 cv plain mixed (D := saF) abP (fun e A he => br (c := ⟨[], [(qV, 4, YU.cW)]⟩) (by kernel_rfl) trivial ⟨Ud (hu.aA he), trivial⟩ A) (fun e he h => (rD (hu.aA he)).2.2.2.2)
theorem abf : gH Tryz.prog z6Y (.uf 134 (pk [.v 7400])) Ug := ⟨by kernel_rfl, by kernel_rfl, rfl, by kernel_rfl, rfl, fun m h => bk h, fun m h => bk h, fun _ => rfl⟩
theorem X8 (hu : OU o) : dz Tryz.prog o Dx 4 z6Y.cW :=
 abf.ok plain mixed (fun e he h => by simp only [pk, List.foldr, SS, implies_true, (hu.aA he).Yd]; omega) (fun _ _ _ => ct) (fun e i he h hr hl => Rj (hu.aA he) hr hl)
theorem aey : z6F.iK Tryz.prog = some z6L := by kernel_rfl
theorem Yq (hu : OU o) : dZ Tryz.prog o Dx z6F.aS :=
 cv plain mixed (D := z6F) aey (fun e A he => br (c := ⟨[], [(Dx, 4, z6Y.cW)]⟩) (by kernel_rfl) trivial ⟨X8 (hu.aA he), trivial⟩ A) (fun e he h => WD (hu.aA he))
theorem ab1 : XV.iK Tryz.prog = some z5L := by kernel_rfl
theorem K0 (hu : OU o) : dZ Tryz.prog o Jp XV.aS :=
 cv plain mixed (D := XV) ab1 (fun e A he => br (c := ⟨[(Dx, z6F.aS)], []⟩) (by kernel_rfl) ⟨Yq (hu.aA he), trivial⟩ trivial A) (fun e he h => Yb (hu.aA he))
theorem Yn : gH Tryz.prog RE (.uf 138 (pk [.v 7420])) K7 := ⟨by kernel_rfl, by kernel_rfl, rfl, by kernel_rfl, rfl, fun m h => bk h, fun m h => bk h, fun _ => rfl⟩
theorem Ri (hu : OU o) : dz Tryz.prog o uh 4 RE.cW :=
 Yn.ok plain mixed (fun e he h => by simp only [pk, List.foldr, SS, implies_true, (hu.aA he).Xy]; omega) (fun e A he => br (c := ⟨[(Jp, XV.aS)], []⟩) (by kernel_rfl) ⟨K0 (hu.aA he), trivial⟩ trivial A) (fun e i he h hr hl => LI (hu.aA he) hr hl)
theorem VC : Mb.iK Tryz.prog = some V6 := by kernel_rfl
theorem PA (hu : OU o) : dZ Tryz.prog o uh Mb.aS :=
 cv plain mixed (D := Mb) VC (fun e A he => br (c := ⟨[], [(uh, 4, RE.cW)]⟩) (by kernel_rfl) trivial ⟨Ri (hu.aA he), trivial⟩ A) (fun e he h => PT (hu.aA he))
theorem Xf : gH Tryz.prog N5 (.uf 144 (pk [.v 7430, .v 7431])) Uf := ⟨by kernel_rfl, by kernel_rfl, rfl, by kernel_rfl, rfl, fun m h => bk h, fun m h => bk h, fun _ => rfl⟩
theorem Oq (hu : OU o) : dz Tryz.prog o jF 7 N5.cW :=
 Xf.ok plain mixed (fun e he h => by simp only [pk, List.foldr, SS, implies_true, (hu.aA he).Vw]; omega) (fun _ _ _ => ct) (fun e i he h hr hl => QN (hu.aA he) hr hl)
theorem W8 : gH Tryz.prog Iz (.uf 146 (pk [.v 7433])) NG := ⟨by kernel_rfl, by kernel_rfl, rfl, by kernel_rfl, rfl, fun m h => bk h, fun m h => bk h, fun _ => rfl⟩
theorem QS (hu : OU o) : dz Tryz.prog o jF 2 Iz.cW :=
 W8.ok plain mixed (fun e he h => by simp only [pk, List.foldr, SS, implies_true, (hu.aA he).Ui]; omega) (fun e A he => br (c := ⟨[], [(jF, 7, N5.cW)]⟩) (by kernel_rfl) trivial ⟨Oq (hu.aA he), trivial⟩ A) (fun e i he h hr hl => KB (hu.aA he) hr h hl)
theorem XJ : Li.iK Tryz.prog = some Vd := by kernel_rfl
theorem Rx (hu : OU o) : dZ Tryz.prog o jF Li.aS :=
 cv plain mixed (D := Li) XJ (fun e A he => br (c := ⟨[], [(jF, 2, Iz.cW)]⟩) (by kernel_rfl) trivial ⟨QS (hu.aA he), trivial⟩ A) (fun e he h => QX (hu.aA he))
theorem Z6 : gH Tryz.prog shY (.uf 149 (pk [.v 7436])) shL := ⟨by kernel_rfl, by kernel_rfl, rfl, by kernel_rfl, rfl, fun m h => bk h, fun m h => bk h, fun _ => rfl⟩
theorem Vj (hu : OU o) : dz Tryz.prog o l5 5 shY.cW :=
 Z6.ok plain mixed (fun e he h => by simp only [pk, List.foldr, SS, implies_true, (hu.aA he).Yk]; omega) (fun _ _ _ => ct) (fun e i he h hr hl => Xc (hu.aA he) hr hl)
theorem acR : Pd.iK Tryz.prog = some smL := by kernel_rfl
theorem LW (hu : OU o) : dZ Tryz.prog o l5 Pd.aS :=
 cv plain mixed (D := Pd) acR (fun e A he => br (c := ⟨[(jF, Li.aS)], [(l5, 5, shY.cW)]⟩) (by kernel_rfl) ⟨Rx (hu.aA he), trivial⟩ ⟨Vj (hu.aA he), trivial⟩ A) (fun e he h => Vo (hu.aA he) h)
theorem UE : gH Tryz.prog Jb (.uf 152 (pk [.v 7450])) Ml := ⟨by kernel_rfl, by kernel_rfl, rfl, by kernel_rfl, rfl, fun m h => bk h, fun m h => bk h, fun _ => rfl⟩
theorem PY (hu : OU o) : dz Tryz.prog o lH 2 Jb.cW :=
 UE.ok plain mixed (fun e he h => by simp only [pk, List.foldr, SS, implies_true, (hu.aA he).Va]; omega) (fun e A he => br (c := ⟨[(l5, Pd.aS)], []⟩) (by kernel_rfl) ⟨LW (hu.aA he), trivial⟩ trivial A) (fun e i he h hr hl => Lw (hu.aA he) hr h hl)
theorem Uq : L6.iK Tryz.prog = some Ut := by kernel_rfl
theorem RK (hu : OU o) : dZ Tryz.prog o lH L6.aS :=
 cv plain mixed (D := L6) Uq (fun e A he => br (c := ⟨[], [(lH, 2, Jb.cW)]⟩) (by kernel_rfl) trivial ⟨PY (hu.aA he), trivial⟩ A) (fun e he h => Ov (hu.aA he))
end
section
variable {o : Env}
end
section
variable {o : Env}
end
section
variable {o : Env}
end
section
variable {o : Env}
theorem QD : w9.iK Tryz.prog = some LG := by kernel_rfl
theorem Db (hu : OU o) (hh : OH o) : dZ Tryz.prog o ur w9.aS :=
 cv plain mixed (D := w9) QD (fun e A he => br (c := ⟨[(im, ja.aS), (tz, qK.aS)], []⟩) (by kernel_rfl) ⟨qI (hu.aA he), zF (hu.aA he), trivial⟩ trivial A) (fun e he h => Lp (hu.aA he) (hh.aA he))
theorem aeT : gH Tryz.prog YV (.uf 284 (pk QP)) upL := ⟨by kernel_rfl, by kernel_rfl, rfl, by kernel_rfl, rfl, fun m h => bk h, fun m h => bk h, fun _ => rfl⟩
theorem Nd (hu : OU o) (hh : OH o) : dz Tryz.prog o fUp 0 YV.cW :=
 aeT.ok plain mixed (fun e he h => by simp only [QP, pk, List.foldr, SS, implies_true, (hh.aA he).all]; omega) (fun e A he => pH (c := ⟨[(ur, w9.aS)], []⟩) (by kernel_rfl) ⟨Db (hu.aA he) (hh.aA he), trivial⟩ trivial A) (fun e i he h hr hl => V2 (hu.aA he) (hh.aA he) hr h hl)
theorem ZR : gH Tryz.prog YY (.uf 294 (pk NW)) dnL := ⟨by kernel_rfl, by kernel_rfl, rfl, by kernel_rfl, rfl, fun m h => bk h, fun m h => bk h, fun _ => rfl⟩
theorem Mn (hu : OU o) (hh : OH o) : dz Tryz.prog o Gs 2 YY.cW :=
 ZR.ok plain mixed (fun e he h => by simp only [NW, pk, List.foldr, SS, implies_true, (hh.aA he).all]; omega) (fun e A he => pH (c := ⟨[(ur, w9.aS)], []⟩) (by kernel_rfl) ⟨Db (hu.aA he) (hh.aA he), trivial⟩ trivial A) (fun e i he h hr hl => Uy (hu.aA he) (hh.aA he) hr h hl)
end
section
variable {o : Env}
theorem Y5 : ak.Ks Tryz.prog Jh Gb 0 false = some PN := by kernel_rfl
theorem ZZ : ak.Ks Tryz.prog Jh Gb 0 true = some Qm := by kernel_rfl
theorem Xl (hv : OV o) : dz Tryz.prog o Gm 3 Jh.cW := by
 refine ak.W5 plain mixed (D := Jh) (R := Gb) (by kernel_rfl) (fun e' he μ0 h0 hent => ?_) (fun _ => rfl)
 obtain rfl := bk h0; have hv' := hv.aA he.uf; have hent : aa.ay e' [lY (.v 7740), (.uf 201 (pk [.v 7740]), true)] := hent; simp only [lY, aB, pk, List.foldr, SS, implies_true, hv'.Kc, al] at hent; obtain ⟨hmx, hap⟩ := hent; refine ⟨⟨fun _ vs μ => μ = 0 /\ vs.Pairwise (fun a b => KK.str.dv a ≠ KK.str.dv b) /\ ∀ k ∈ vs, ∃ r ∈ (e'.v 7740).T, r.headD (.i 0) = k, fun _ b => cond b Qm PN, fun _ _ _ _ => ct, fun u vs μ hm b => ?_, fun u vs μ e hm he0 hO x hx hfx => ?_, fun u vs μ e k hm he0 hC x hx hfx => ?_, fun u vs μ y hm => ?_, fun u vs μ μ' e k hm he0 hC ht _ => ⟨0, ⟨rfl, ?_, ?_⟩, ?_⟩, fun u _ => ⟨0, ⟨rfl, List.Pairwise.nil, fun _ q => by cases q⟩, gz.refl _⟩⟩⟩
 ·rw [hm.1]; cases b
  ·exact Y5
  ·exact ZZ
 ·obtain ⟨h1, h2, h3⟩ := hm; rw [h1] at he0; injection he0 with he0; subst he0; have hp := keys_perm hap h2 h3 hO; refine iA (env := Jh.dh Gb e' u (ak.dj vs) (e'.v Gb.kv)) ?_ x hx hfx; have hv2 : OV (Jh.dh Gb e' u (ak.dj vs) (e'.v Gb.kv)) := hv'; show bn _ PN; simp only [PN, af, au, and_true]; intro h; simp only [SS, implies_true, hv2.OY]; have e1 : (Jh.dh Gb e' u (ak.dj vs) (e'.v Gb.kv)).v 2202 = ak.dj vs := rfl; have e2 : (Jh.dh Gb e' u (ak.dj vs) (e'.v Gb.kv)).v 7740 = e'.v 7740 := rfl; rw [e1, e2, ak.Be]; have := hp.length_eq; refine ⟨?_, hp⟩; simp only [List.length_map] at this ⊢; omega
 ·obtain ⟨h1, h2, h3⟩ := hm; rw [h1] at he0; injection he0 with he0; subst he0; refine iA (env := Jh.dh Gb e' u (ak.dj vs) k) ?_ x hx hfx; show bn _ Qm; simp only [Qm, af, au, and_true]; intro h; simp only [SS, implies_true]; have e1 : (Jh.dh Gb e' u (ak.dj vs) k).v 2202 = ak.dj vs := rfl; rw [e1, ak.Be, List.length_map]; have := Ls h2 h3; omega
 ·rw [hm.1]; have hv2 : OV (Jh.dh Gb e' u (ak.dj vs) y) := hv'; show aa.ay _ [lY (.v 7740), (.uf 201 (pk [.v 7740]), true)]; have e2 : (Jh.dh Gb e' u (ak.dj vs) y).v 7740 = e'.v 7740 := rfl; simp only [lY, aB, pk, List.foldr, SS, implies_true, hv2.Kc, al, e2]; exact ⟨hmx, hap⟩
 ·refine List.pairwise_append.2 ⟨hm.2.1, List.pairwise_singleton _ _, fun a ha b hb => ?_⟩; rw [List.mem_singleton.1 hb]; exact hC.2 a ha
 ·intro k' hk'; rcases List.mem_append.1 hk' with h | h
  ·exact hm.2.2 k' h
  ·rw [List.mem_singleton.1 h]; have he := hm.1; subst he; injection he0 with he0; subst he0; exact hC.1
 ·have := hm.1; rw [bk ht]; exact gz.refl _
theorem WU (hh : OH o) (hj : OJ o) {r : Nat} (hr : o.v 2203 = .i r) (hent : (hlY.aU 0).ay o) (hle : (r : Int) <= ((aB (.v 7750)).den o).I) : bn o hlL := by
 simp only [hlY, hlF, lY, aB, pk, List.foldr, SS, implies_true, hj.hb, al] at hent hle; obtain ⟨hmx, hin⟩ := hent; simp only [hlL, af, au, and_true]
 and_intros
 all_goals intro h
 all_goals simp only [SS, implies_true, hr, hj.hb] at h ⊢
 ·have q := (hin _ (ef (d := o.v 7750) (n := r) (by omega))).2
  refine ⟨q, q, q, ?_⟩; unfold RX; rw [Lj (by omega)]
  rfl
 ·exact absurd (hin _ (ef (d := o.v 7750) (n := r) (by omega))).1 h.1
 ·have : (RX (o.v 7750) (o.v 7751) (o.v 7752)).length = (o.v 7750).T.length := by unfold RX; rw [List.length_map]
  exact ⟨by omega, eF (by omega)⟩
theorem UM {r : Nat} (hr : o.v 2204 = .i r) : bn o hkL := by
 simp only [hkL, af, au, and_true]
 and_intros
 all_goals intro h
 all_goals simp only [SS, implies_true, hr] at h ⊢
 exact eF (by omega)
theorem Yv (hent : (ZO.aU 0).ay o) : bn o hwL := by
 simp only [ZO, hwF, cP, SS, implies_true] at hent; simp only [hwL, af, au, and_true]
 and_intros
 all_goals intro h
 all_goals simp only [SS, implies_true] at h ⊢
 all_goals first | omega | trivial | exact hent.1
theorem aeR : gH Tryz.prog hlY (aB (.v 7750)) hlL := ⟨by kernel_rfl, by kernel_rfl, rfl, by kernel_rfl, rfl, fun m h => bk h, fun m h => bk h, fun _ => rfl⟩
theorem XH (hh : OH o) (hj : OJ o) : dz Tryz.prog o Bv 5 hlY.cW :=
 aeR.ok plain mixed (fun o _ _ => ij o) (fun _ _ _ => ct) (fun e i he h hr hl => WU (hh.aA he) (hj.aA he) hr h hl)
theorem ab9 : gH Tryz.prog hkY (aB (.v 7757)) hkL := ⟨by kernel_rfl, by kernel_rfl, rfl, by kernel_rfl, rfl, fun m h => bk h, fun m h => bk h, fun _ => rfl⟩
theorem Yx : dz Tryz.prog o Bi 5 hkY.cW :=
 ab9.ok plain mixed (fun o _ _ => ij o) (fun _ _ _ => ct) (fun e i he h hr hl => UM hr)
theorem Z5 : gH Tryz.prog ZO (.il 0) hwL := ⟨by kernel_rfl, by kernel_rfl, rfl, by kernel_rfl, rfl, fun m h => bk h, fun m h => bk h, fun _ => rfl⟩
theorem TY : dz Tryz.prog o EI 3 ZO.cW :=
 Z5.ok plain mixed (fun e he h => Int.le_refl _) (fun _ _ _ => ct) (fun e i he h hr hl => Yv h)
theorem abS : gH Tryz.prog hbY (.uf 212 (pk [.v 7770])) hbL := ⟨by kernel_rfl, by kernel_rfl, rfl, by kernel_rfl, rfl, fun m h => bk h, fun m h => bk h, fun _ => rfl⟩
theorem YJ (hu : OU o) (hv : OV o) (hh : OH o) (hj : OJ o) : dz Tryz.prog o BB 6 hbY.cW :=
 abS.ok plain mixed (fun e he h => by simp only [pk, List.foldr, SS, implies_true, (hv.aA he).IQ]; omega)
  (fun e A he => pH (c := hbX) (by kernel_rfl) ⟨vR (hu.aA he), trivial⟩ ⟨Nd (hu.aA he) (hh.aA he), Mn (hu.aA he) (hh.aA he), trivial⟩ A)
  (fun e i he h hr hl => XX (hu.aA he) (hv.aA he) (hh.aA he) (hj.aA he) hr h hl)
end
end Go.Proofs.YtdlppkhmmclipaaGreat.sxObj
namespace Go.Proofs.YtdlppkhmmclipaaGreat.sxObj
open Go.Sx
set_option linter.unusedVariables false
set_option maxRecDepth 100000
abbrev ow0 : E := .v 7580
abbrev Y1 : E := eC 0 ow0 (.v 2160)
abbrev ow2 : E := .il 0
end Go.Proofs.YtdlppkhmmclipaaGreat.sxObj
namespace Go.Proofs.YtdlppkhmmclipaaGreat.sxObj
open Go.Sx Go.RowKit Go.Proofs.YtdlppkhmmclipaaGreat
set_option linter.unusedVariables false
set_option linter.unusedSimpArgs false
set_option maxRecDepth 100000
section
variable {o : Env}
end
end Go.Proofs.YtdlppkhmmclipaaGreat.sxObj
namespace Go.Proofs.YtdlppkhmmclipaaGreat.sxObj
open Go.Sx
set_option linter.unusedVariables false
set_option maxRecDepth 100000
end Go.Proofs.YtdlppkhmmclipaaGreat.sxObj
namespace Go.Proofs.YtdlppkhmmclipaaGreat.sxObj
open Go.Sx Go.RowKit Go.Proofs.YtdlppkhmmclipaaGreat
set_option linter.unusedVariables false
set_option linter.unusedSimpArgs false
set_option maxRecDepth 100000
section
variable {o : Env}
end
section
variable {o : Env}
end
section
variable {o : Env}
def hmL (m : Nat) : List (aa × List Ob) := match m with | 0 => Yh | _ => Uk
theorem hmM {m : Nat} (h : (Gz.mS m || Gz.ll m) = true) : m = 0 \/ m = 1 := by
 rcases Bool.or_eq_true_iff.1 h with h | h
 ·exact .inl (bk h)
 ·exact .inr (vF h)
theorem aaX : Gz.iK Tryz.prog 0 = some Yh := by kernel_rfl
theorem aeg : Gz.iK Tryz.prog 1 = some Uk := by kernel_rfl
theorem aau : Pt Tryz.prog Gz (aB (.v 7780)) hmL := ⟨fun m h => by
    rcases hmM h with rfl | rfl
    ·exact aaX
    ·exact aeg, by kernel_rfl, fun m => by rcases m with _ | _ <;> rfl, fun _ => rfl, by kernel_rfl, rfl, fun _ => rfl⟩
theorem YC (hu : OU o) (hv : OV o) (hh : OH o) (hj : OJ o) (A : Anchor) : ez Tryz.prog o A (hmX.x.xe.cN Tryz.prog) :=
 pH (c := hmX) (by kernel_rfl) ⟨te hu, Fg hu, vR hu, qI hu, C7 hu, Nf hu, CN hu, trivial⟩ ⟨Xl hv, XH hh hj, Yx, TY, YJ hu hv hh hj, Nd hu hh, Mn hu hh, trivial⟩ A
theorem U6 (hu : OU o) (hv : OV o) (hh : OH o) (hj : OJ o) : dz Tryz.prog o Ae 4 Gz.cW :=
 aau.ok plain mixed (fun o _ _ => ij o) (fun e A he => YC (hu.aA he) (hv.aA he) (hh.aA he) (hj.aA he) A)
  (fun e i m he h hm hk hr hl => by
   rcases hmM hk with rfl | rfl
   ·exact QR (hu.aA he) (hv.aA he) (hh.aA he) (hj.aA he) hr h hm hl
   ·exact On (hu.aA he) (hv.aA he) (hh.aA he) (hj.aA he) hr h hl)
end
section
variable {o : Env}
theorem aaF : gH Tryz.prog leY (aB (.v 7790)) leL := ⟨by kernel_rfl, by kernel_rfl, rfl, by kernel_rfl, rfl, fun m h => bk h, fun m h => bk h, fun _ => rfl⟩
theorem X3 (hj : OJ o) : dz Tryz.prog o Fx 3 leY.cW :=
 aaF.ok plain mixed (fun o _ _ => ij o) (fun _ _ _ => ct) (fun e i he h hr hl => WA (hj.aA he) hr hl)
theorem acI : gH Tryz.prog hdY (.uf 167 (pk [.v 7792])) hdL := ⟨by kernel_rfl, by kernel_rfl, rfl, by kernel_rfl, rfl, fun m h => bk h, fun m h => bk h, fun n => by rcases n with _ | _ | _ <;> rfl⟩
theorem Wd (hu : OU o) (hj : OJ o) : dz Tryz.prog o MR 24 hdY.cW :=
 acI.ok plain mixed (fun e he h => by simp only [pk, List.foldr, SS, implies_true, (hu.aA he).Jw]; omega)
  (fun e A he => br (c := ⟨[(ig, fv.aS), (ml, gP.aS)], []⟩) (by kernel_rfl) ⟨kx (hu.aA he), sq (hu.aA he), trivial⟩ trivial A)
  (fun e i he h hr hl => Vg (hu.aA he) (hj.aA he) hr h hl)
def hsL (m : Nat) : List (aa × List Ob) := match m with | 0 => Wj | _ => WM
theorem hsM {m : Nat} (h : (GH.mS m || GH.ll m) = true) : m = 0 \/ m = 1 := by
 rcases Bool.or_eq_true_iff.1 h with h | h
 ·exact .inl (bk h)
 ·exact .inr (vF h)
theorem aaK : GH.iK Tryz.prog 0 = some Wj := by kernel_rfl
theorem aba : GH.iK Tryz.prog 1 = some WM := by kernel_rfl
theorem aci : Pt Tryz.prog GH (aB (.v 7795)) hsL := ⟨fun m h => by
    rcases hsM h with rfl | rfl
    ·exact aaK
    ·exact aba, by kernel_rfl, fun m => by rcases m with _ | _ <;> rfl, fun _ => rfl, by kernel_rfl, rfl, fun _ => rfl⟩
theorem Wz (hu : OU o) (hj : OJ o) (A : Anchor) : ez Tryz.prog o A (hsX.x.xe.cN Tryz.prog) :=
 pH (c := hsX) (by kernel_rfl) ⟨kx hu, qN hu, sq hu, uL hu, Dt hu, trivial⟩ ⟨X3 hj, Wd hu hj, trivial⟩ A
theorem XQ (hu : OU o) (hj : OJ o) : dz Tryz.prog o Al 5 GH.cW :=
 aci.ok plain mixed (fun o _ _ => ij o) (fun e A he => Wz (hu.aA he) (hj.aA he) A)
  (fun e i m he h hm hk hr hl => by
   rcases hsM hk with rfl | rfl
   ·exact Qt (hu.aA he) (hj.aA he) hr h hm hl
   ·exact P4 (hu.aA he) (hj.aA he) hr h hl)
end
section
variable {o : Env}
theorem Wm : gH Tryz.prog PX (.uf 331 (pk [.v 7850])) LQ := ⟨by kernel_rfl, by kernel_rfl, rfl, by kernel_rfl, rfl, fun m h => bk h, fun m h => bk h, fun _ => rfl⟩
theorem Q1 (hu : OU o) (hg : OG o) : dz Tryz.prog o vN 4 PX.cW :=
 Wm.ok plain mixed (fun e he h => by simp only [pk, List.foldr, SS, implies_true, (hg.aA he).all]; omega) (fun e A he => br (c := ⟨[(Jp, XV.aS), (uh, Mb.aS)], []⟩) (by kernel_rfl) ⟨K0 (hu.aA he), PA (hu.aA he), trivial⟩ trivial A) (fun e i he h hr hl => M3 (hu.aA he) (hg.aA he) hr hl)
theorem Wq : P8.iK Tryz.prog = some Yw := by kernel_rfl
theorem Pq (hu : OU o) (hg : OG o) : dZ Tryz.prog o vN P8.aS :=
 cv plain mixed (D := P8) Wq (fun e A he => br (c := ⟨[], [(vN, 4, PX.cW)]⟩) (by kernel_rfl) trivial ⟨Q1 (hu.aA he) (hg.aA he), trivial⟩ A) (fun e he h => Pk (hg.aA he))
theorem UF : gH Tryz.prog JI (.uf 334 (pk [.v 7852])) LV := ⟨by kernel_rfl, by kernel_rfl, rfl, by kernel_rfl, rfl, fun m h => bk h, fun m h => bk h, fun _ => rfl⟩
theorem Qi (hu : OU o) (hg : OG o) : dz Tryz.prog o qY 2 JI.cW :=
 UF.ok plain mixed (fun e he h => by simp only [pk, List.foldr, SS, implies_true, (hg.aA he).all]; omega) (fun e A he => br (c := ⟨[(l5, Pd.aS), (lH, L6.aS)], []⟩) (by kernel_rfl) ⟨LW (hu.aA he), RK (hu.aA he), trivial⟩ trivial A) (fun e i he h hr hl => LF (hu.aA he) (hg.aA he) hr h hl)
theorem Xi : O9.iK Tryz.prog = some VM := by kernel_rfl
theorem Oj (hu : OU o) (hg : OG o) : dZ Tryz.prog o qY O9.aS :=
 cv plain mixed (D := O9) Xi (fun e A he => br (c := ⟨[], [(qY, 2, JI.cW)]⟩) (by kernel_rfl) trivial ⟨Qi (hu.aA he) (hg.aA he), trivial⟩ A) (fun e he h => NZ (hg.aA he))
theorem O5 : GR.iK Tryz.prog = some KT := by kernel_rfl
theorem Hb (hu : OU o) (hv : OV o) (hh : OH o) (hj : OJ o) (A : Anchor) : ez Tryz.prog o A (OF.x.cN Tryz.prog) :=
 br (c := OF) (by kernel_rfl) trivial ⟨U6 hu hv hh hj, trivial⟩ A
theorem K6 (hu : OU o) (hv : OV o) (hh : OH o) (hj : OJ o) : dZ Tryz.prog o 10 GR.aS :=
 cv plain mixed (D := GR) O5 (fun e A he => Hb (hu.aA he) (hv.aA he) (hh.aA he) (hj.aA he) A) (fun e he h => NC (hj.aA he))
theorem Vm : O8.iK Tryz.prog = some VP := by kernel_rfl
theorem RD (hu : OU o) (hv : OV o) (hh : OH o) (hj : OJ o) : dZ Tryz.prog o wg O8.aS :=
 cv plain mixed (D := O8) Vm (fun e A he => Hb (hu.aA he) (hv.aA he) (hh.aA he) (hj.aA he) A) (fun e he h => QU (hj.aA he))
end
noncomputable def HU (c : Nat) (d : Dv) : Dv := if c < 200 then Nu c d else if c < 260 then aei c d else if c < 300 then ade c d else if c < 330 then aeo c d else aam c d
theorem EG {o : Env} (h : o.uf = HU) : OU o := fun c d h1 h2 => by rw [h]; exact if_pos h2
theorem aeI {o : Env} (h : o.uf = HU) : OV o := fun c d h1 h2 => by rw [h]; unfold HU; rw [if_neg (by omega), if_pos (by omega)]
theorem adW {o : Env} (h : o.uf = HU) : OH o := fun c d h1 h2 => by rw [h]; unfold HU; rw [if_neg (by omega), if_neg (by omega), if_pos (by omega)]
theorem NY {o : Env} (h : o.uf = HU) : OJ o := fun c d h1 h2 => by rw [h]; unfold HU; rw [if_neg (by omega), if_neg (by omega), if_neg (by omega), if_pos (by omega)]
theorem TX {o : Env} (h : o.uf = HU) : OG o := fun c d h1 h2 => by rw [h]; unfold HU; rw [if_neg (by omega), if_neg (by omega), if_neg (by omega), if_neg (by omega)]
theorem NB : FQ Tryz.prog Vs.x 3 ad4 80 = some WN := by kernel_rfl
theorem PR {o : Env} (h : o.uf = HU) (A : Anchor) : ez Tryz.prog o A (Vs.x.cN Tryz.prog) :=
 br (c := Vs) (by kernel_rfl) ⟨Pq (EG h) (TX h), Oj (EG h) (TX h), Uj (EG h), RD (EG h) (aeI h) (adW h) (NY h), K6 (EG h) (aeI h) (adW h) (NY h), trivial⟩ ⟨XQ (EG h) (NY h), trivial⟩ A
theorem af8 : ownKnob Tryz.prog.godebug = none := by kernel_rfl
theorem aet : laidOutB Tryz.prog = true := by kernel_rfl
theorem BX (H : Type) (enc : TypeId × Value -> H) (W : World) (base : Nat) (args : Array Value) (ds gs : List (DataW H)) (before : List MemPlace)
    (hval : ∀ (j : Nat) t v, Tryz.f3.params[j]? = some t -> args[j]? = some v -> Value.okWide Tryz.prog W .any base t v)
    (hW : DataW.Whole enc Tryz.prog Tryz.f3.params.toList Rows.fnHeapSpec.vars false W args.toList ds gs before) :
    Calls Tryz.prog 3 args W fun e W' => ∃ v, e = .returned v /\ Rows.fnHeapSpec.post enc Tryz.prog Tryz.f3 false true false false W args v W' :=
 AQ aet (ks := ad4) (tb := 4) (by kernel_rfl) (by kernel_rfl) (by kernel_rfl) (by kernel_rfl) rfl
  (fun ds hd => by
   match ds, hd with
   | [d], _ => rfl) (fun vs hl cI => Kl plain mixed (by decide) NB (fun o A hu => PR hu A) (fun o hu => PC (EG hu) (NY hu) (TX hu)) W vs hl cI) hval hW
theorem Ei (os : Os) (started : os.Started) (H : Type) (enc : TypeId × Value -> H) :
    ReturnsInHanded {} Tryz.checked os 3 .any (Rows.fnHeapSpec.pre6 enc Tryz.prog Tryz.f3 Rows.fnHeapRow.domain false) (Rows.fnHeapSpec.post enc Tryz.prog Tryz.f3 false true false false) := by
 refine returnsInHanded_of_change (C := Tryz.checked) (s := Rows.fnHeapSpec) af8 started (by kernel_rfl) Tryz.func3
  (ChangeSpec.witness6 (enc := enc) (C := Tryz.checked) false ⟨#[], #[.slice none 0 0], []⟩ 8 (by kernel_rfl) (by kernel_rfl) (by kernel_rfl) (by kernel_rfl)) ?_
 intro W base args ds gs before hval hW _ _; exact BX H enc W base args ds gs before hval hW
theorem hlwProved : Rows.FnHeapSaid :=
 OpenClaim.holds_of_wide 3 Tryz.f3 rfl rfl rfl rfl rfl rfl rfl ⟨rfl, rfl, rfl, rfl, rfl⟩ rfl rfl rfl rfl rfl (by kernel_rfl) Tryz.func3 (by kernel_rfl)
  (of_decide_eq_true (by kernel_rfl)) (by unfold Func.isWrapper; first | (rw [if_pos (by decide +kernel)]; kernel_rfl) | (rw [if_neg (by decide +kernel)]; exact ⟨rfl, rfl⟩))
  (fun os started H enc _ => Ei os started H enc)
end Go.Proofs.YtdlppkhmmclipaaGreat.sxObj
