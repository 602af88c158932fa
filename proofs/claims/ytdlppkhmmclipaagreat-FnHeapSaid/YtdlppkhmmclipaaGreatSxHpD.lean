/-
  THE LAW FnHeap (proved): over every history of a heap, each answer is that of a list of objects from which the least one is popped. No conditions beside the law's own guards.
-/
import Derived.Test.YtdlppkhmmclipaaGreatSxHpC
import Derived.Test.YtdlppkhmmclipaaGreatSxHpB
import Derived.Test.YtdlppkhmmclipaaGreatSxHpA
import Derived.Test.YtdlppkhmmclipaaGreatSxMLoopH
import Derived.Test.YtdlppkhmmclipaaGreatRows
namespace Go.Proofs.YtdlppkhmmclipaaGreat.sxObj
open Go.Sx Go.RowKit Go.Proofs.YtdlppkhmmclipaaGreat
set_option linter.unusedVariables false
set_option linter.unusedSimpArgs false
set_option maxRecDepth 100000
theorem DX {a b c d e : Dv} : xA (O2.den .b9 a (O2.den .b9 b (O2.den .b9 c (O2.den .b9 d e)))) = ⟨a.T, b.I.toNat, c.T, d.T⟩ := id rfl
theorem Bh {h : HM} {k any : Dv} (hh : 0 <= aQ .s k h.I) : fq h k any = fv h k any := if_pos hh
theorem Hv {h : HM} {k any : Dv} (hh : ¬ 0 <= aQ .s k h.I) : fq h k any = jG h k any := if_neg hh
theorem P1 {env : Env} {q : KQ} {a b : E} : (E.o2 (.mp q) a b).den env = .t (jM q (a.den env).T (b.den env).row) := id rfl
theorem Xh {env : Env} {q : KQ} {a b : E} : (E.o2 (.md q) a b).den env = .t (nR q (a.den env).T (b.den env)) := id rfl
section
variable {H : HM} {I A : List Row} {k any L B' I' A' : Dv} {r m j : Nat}
theorem af1 : Dv.s (ju (cc (row (cc (row L r) 0) 0) 0).S (cc (row (cc (row L r) 0) 0) 1).S) = dc L r := id rfl
theorem n6 : (cc (row (.t I) (aQ .s k I).toNat) 1).I = dR (.t I) k := id rfl
theorem aaH : H.A.set (dR (.t H.I) k).toNat [any, cc (row (.t H.A) (dR (.t H.I) k).toNat) 1] = (bf H k any).A := id rfl
theorem aaV : (cc (row (.t (bf H k any).A) (dR (.t H.I) k).toNat) 1).I = fY (bf H k any) k := id rfl
theorem Ot : dE B' I' A' m j 0 = ⟨B'.T, A'.T, j⟩ := id rfl
theorem Q5 : eh B' I' A' j 0 = ⟨B'.T, A'.T, j⟩ := id rfl
theorem tnn {n : Nat} : ((n : Int) + 1 - 1).toNat = n := by omega
theorem tni {n : Nat} : (n : Int) + 1 - 1 = n := by omega
theorem aeI : (dE (.t H.B) (.t H.I) (.t (bf H k any).A) m j (ym (.t H.B) (.t H.I) (.t (bf H k any).A) m j)).A = (cR (bf H k any) m j).A := id rfl
theorem adK : (dE (.t H.B) (.t H.I) (.t (bf H k any).A) m j (ym (.t H.B) (.t H.I) (.t (bf H k any).A) m j)).B = (cR (bf H k any) m j).B := id rfl
theorem ZJ : (dE (.t H.B) (.t H.I) (.t (bf H k any).A) m j (ym (.t H.B) (.t H.I) (.t (bf H k any).A) m j)).j = B4 (bf H k any) m j := id rfl
theorem aby : (eh (.t (cR (bf H k any) m j).B) (.t H.I) (.t (cR (bf H k any) m j).A) r (Cx (.t (cR (bf H k any) m j).B) (.t H.I) (.t (cR (bf H k any) m j).A) r)).A = (p5 (cR (bf H k any) m j) r).A := id rfl
theorem abT : (eh (.t (cR (bf H k any) m j).B) (.t H.I) (.t (cR (bf H k any) m j).A) r (Cx (.t (cR (bf H k any) m j).B) (.t H.I) (.t (cR (bf H k any) m j).A) r)).B = (p5 (cR (bf H k any) m j) r).B := id rfl
theorem pT (c : eG H) (hh : 0 <= aQ .s k H.I) (hc : jf any k) : eG (bf H k any) := by
 obtain ⟨i, hi, hk, e⟩ := wz c hh; exact xy c hi e hk hc
theorem Hz (c : eG H) (hh : 0 <= aQ .s k H.I) : 0 <= dR (.t H.I) k := by
 obtain ⟨i, hi, hk, e⟩ := wz c hh; rw [e]; exact c.dK.i i hi
end
section
variable {o : Env}
theorem XR (hu : OU o) (hv : OV o) (hh : OH o) (hj : OJ o) {r : Nat} (hr : o.v 2206 = .i r) (hent : (hbY.aU 0).ay o) (hle : (r : Int) <= ((E.uf 212 (pk [.v 7770])).den o).I) : bo o hbL := by
 simp only [hbY, KG, mb, cP, aB, pk, List.foldr, SS, implies_true, hv.Iu, hv.P9, hj.hb, DX, al] at hent hle; obtain ⟨hok, hmx, hin, l20, n0, n1, b1, a1, i1⟩ := hent; have hle : r <= gN (qa (o.v 7770)) (o.v 7770).T.length := by omega
 have hgl : gN (qa (o.v 7770)) (o.v 7770).T.length <= (o.v 7770).T.length := ke
 have hq : ∀ j, j < r -> qa (o.v 7770) j := fun j h2 => by
  have h2 : j < stop (fun j => !dec (qa (o.v 7770) j)) (o.v 7770).T.length := Nat.lt_of_lt_of_le h2 hle; have h3 := bJ h2; have h3 : dec (qa (o.v 7770) j) = true := by simpa using h3
  exact al.1 h3
 obtain ⟨v, g⟩ := R2 hin hok r (by omega) hq
 have gn := g.n; have gb := g.b; have gi := g.i; have ga := g.a; simp only at gn gb gi ga; have hS : mH (o.v 7770) ⟨(o.v 7771).T, (o.v 7772).I.toNat, (o.v 7773).T, (o.v 7774).T⟩ (r + 1) = fq (mH (o.v 7770) ⟨(o.v 7771).T, (o.v 7772).I.toNat, (o.v 7773).T, (o.v 7774).T⟩ r) (dc (o.v 7770) r) (cc (row (o.v 7770) r) 0) := rfl; simp only [hbL, af, au, and_true]
 and_intros
 all_goals intro h
 all_goals simp only [SS, implies_true, hr, hh.all, hu.mB, hu.jt, hv.OR, hv.Iu, hj.hb, DX, al, cD, Classical.not_not, P1, Ot, Q5, tnn, tni] at h ⊢
 all_goals try simp only [af1, n6, aaH, aaV, aeI, adK, ZJ, aby, abT] at h ⊢
 all_goals generalize hH : mH (o.v 7770) ⟨(o.v 7771).T, (o.v 7772).I.toNat, (o.v 7773).T, (o.v 7774).T⟩ r = H at *
 ·have hb : ¬ qa (o.v 7770) r := fun q => by
    have hq : (cc (jN (o.v 7770) r) 6).B = true := h.1; rw [q] at hq; cases hq
  have hg := afy hle (by omega) hb
  exact ⟨ir (r := r) (by omega) hb, hok r (by omega), by rw [hg], by rw [hg, hH], by rw [hg, hH], by rw [hg, hH], by rw [hg, hH]⟩
 ·obtain ⟨hx, hh2, hgd, hl⟩ := h; have hc : jf (cc (row (o.v 7770) r) 0) (dc (o.v 7770) r) := sN hgd (hok r (by omega))
  have hg := uL hle (by omega) (show qa (o.v 7770) r from hgd)
  have hset := pT v.c hh2 hc; have hnn := Hz v.c hh2; obtain ⟨_, _, _, _, _, _, j0, j1⟩ := oI v hh2 hc
  have e1 : mH (o.v 7770) ⟨(o.v 7771).T, (o.v 7772).I.toNat, (o.v 7773).T, (o.v 7774).T⟩ (r + 1) = cR (bf H (dc (o.v 7770) r) (cc (row (o.v 7770) r) 0)) H.n (fY (bf H (dc (o.v 7770) r) (cc (row (o.v 7770) r) 0)) (dc (o.v 7770) r)).toNat := by
   rw [hS, Bh hh2]; unfold fv gB; rw [if_pos]; exact (Int.toNat_lt j0).2 hx
  obtain ⟨oo1, oo2, oo3⟩ := hok r (by omega)
  have hin2 := hset.dK; have hu2 := sh v hh2 hc; have ul : (bf H (dc (o.v 7770) r) (cc (row (o.v 7770) r) 0)).A.length = H.A.length := List.length_set ..
  repeat' refine And.intro ?_ ?_
  all_goals first
   | omega
   | assumption
   | (rw [e1]; done)
   | (rw [e1]; rfl)
   | (rw [e1]; exact List.Perm.refl _)
   | exact oo1
   | exact oo2
   | exact oo3
   | rfl
 ·obtain ⟨hx, hh2, hgd, hl⟩ := h; have hc : jf (cc (row (o.v 7770) r) 0) (dc (o.v 7770) r) := sN hgd (hok r (by omega))
  have hg := uL hle (by omega) (show qa (o.v 7770) r from hgd)
  have hset := pT v.c hh2 hc; have hnn := Hz v.c hh2; obtain ⟨_, _, _, _, _, _, j0, j1⟩ := oI v hh2 hc
  have e1 : mH (o.v 7770) ⟨(o.v 7771).T, (o.v 7772).I.toNat, (o.v 7773).T, (o.v 7774).T⟩ (r + 1) = p5 (cR (bf H (dc (o.v 7770) r) (cc (row (o.v 7770) r) 0)) H.n (fY (bf H (dc (o.v 7770) r) (cc (row (o.v 7770) r) 0)) (dc (o.v 7770) r)).toNat) (fY (bf H (dc (o.v 7770) r) (cc (row (o.v 7770) r) 0)) (dc (o.v 7770) r)).toNat := by
   rw [hS, Bh hh2]; unfold fv gB; rw [if_neg]; exact fun q => hx ((Int.toNat_lt j0).1 q)
  obtain ⟨oo1, oo2, oo3⟩ := hok r (by omega)
  have hin2 := hset.dK; have hu2 := sh v hh2 hc; have hin3 := hu2.c.dK; have ul : (bf H (dc (o.v 7770) r) (cc (row (o.v 7770) r) 0)).A.length = H.A.length := List.length_set ..; have ul2 := hu2.l; have ub2 : (cR (bf H (dc (o.v 7770) r) (cc (row (o.v 7770) r) 0)) H.n (fY (bf H (dc (o.v 7770) r) (cc (row (o.v 7770) r) 0)) (dc (o.v 7770) r)).toNat).B.length = H.B.length := hu2.b
  repeat' refine And.intro ?_ ?_
  all_goals first
   | omega
   | assumption
   | (rw [e1]; done)
   | (rw [e1]; rfl)
   | (rw [e1]; exact List.Perm.refl _)
   | exact oo1
   | exact oo2
   | exact oo3
   | rfl
 ·obtain ⟨hh2, hgd, hl⟩ := h; have hc : jf (cc (row (o.v 7770) r) 0) (dc (o.v 7770) r) := sN hgd (hok r (by omega))
  have hg := uL hle (by omega) (show qa (o.v 7770) r from hgd)
  have e1 : mH (o.v 7770) ⟨(o.v 7771).T, (o.v 7772).I.toNat, (o.v 7773).T, (o.v 7774).T⟩ (r + 1) = p5 (bX H (dc (o.v 7770) r) (cc (row (o.v 7770) r) 0)) H.n := by
   rw [hS, Hv hh2]; rfl
  obtain ⟨oo1, oo2, oo3⟩ := hok r (by omega)
  have hin2 := (rJ v.c hh2 hc).dK; have hbn := v.c.dK.n; have htk : (List.take H.n H.B).length <= H.n := by rw [List.length_take]; omega
  repeat' refine And.intro ?_ ?_
  all_goals first
   | omega
   | assumption
   | (rw [e1]; done)
   | (rw [e1]; rfl)
   | (rw [e1]; exact List.Perm.refl _)
   | exact oo1
   | exact oo2
   | exact oo3
   | rfl
 ·have hgg : gN (qa (o.v 7770)) (o.v 7770).T.length = r := by omega
  exact ⟨qn hle (by omega), by rw [hgg, hH], by rw [hgg, hH], by rw [hgg, hH], by rw [hgg, hH]⟩
end
end Go.Proofs.YtdlppkhmmclipaaGreat.sxObj
namespace Go.Proofs.YtdlppkhmmclipaaGreat.sxObj
open Go.Sx
set_option linter.unusedVariables false
set_option maxRecDepth 100000
abbrev kA : E := .v 7780
abbrev ld : E := .v 2207
abbrev IB : E := eC 7 kA ld
abbrev zU : E := eC 0 kA ld
abbrev os4 : E := .o2 .lt ld (.o1 .ab kA)
abbrev os5 : aa := fT (.o2 .aN zU (.il 1)) (fT os4 [])
abbrev rp : E := eC 1 kA ld
abbrev rn : E := eC 2 kA ld
abbrev aq : E := .il 0
abbrev gd : E := .uf 315 (eP kA aq)
abbrev kY (x : E) : E := eC 0 gd x
abbrev nT (x : E) : E := eC 2 gd x
abbrev Mc : E := eP kA (eP ld aq)
abbrev mQ : E := .uf 313 Mc
abbrev I3 : E := eP kA (eP (.o2 .add ld (.il 1)) aq)
abbrev sc : E := .uf 313 I3
abbrev ka : E := .uf 310 Mc
abbrev r8 : E := .uf 310 I3
abbrev bU : E := .uf 312 Mc
abbrev Bx : E := .uf 312 I3
abbrev aI : E := .uf 311 Mc
abbrev Lp : E := .uf 311 I3
abbrev tK : E := .uf 314 Mc
abbrev RK : List Ob := oO (.o2 .beq tK (.uf 314 I3)) []
abbrev Vp : List Ob := oP bU Bx (oO (.o2 .aN aI Lp) RK)
abbrev abk (x : E) : List Ob := oO (.o2 .seq (.sl []) (eC 4 gd x)) (oT aq (eC 5 gd x) (oT mQ sc (oT ka r8 Vp)))
abbrev PO (x : E) : List Ob := oT aq (eC 3 gd x) (abk x)
abbrev Ki (x : E) : List Ob := oO (.o2 .beq (.bl false) (eC 1 gd x)) (oT aq (nT x) (PO x))
abbrev PH (x : E) : List Ob := oO (.uf 110 (eP rp (eP rn (eP (eC 5 kA ld) aq)))) (oO (.uf 110 (eP rp (eP rn (eP (eC 5 kA ld) aq)))) (oO (.o2 .aN (.il 1) (kY x)) (Ki x)))
abbrev WL (x : E) : List Ob := oO (.o2 .aN (.il 5) (kY x)) (Ki x)
abbrev aao (x : E) : List Ob := oO (.uf 110 (eP rp (eP rn (eP (eC 5 kA ld) aq)))) (oO (.uf 110 (eP rp (eP rn (eP (eC 5 kA ld) aq)))) (WL x))
abbrev Re : E := .uf 100 (eP rp (eP rn aq))
abbrev fh : E := eC 1 bU (.o2 (.mf .s) bU Re)
abbrev Au : E := eP aq aq
abbrev Zb : E := eP rp (eP rn (eP (eC 3 kA ld) (eP (eC 4 kA ld) (eP (eC 5 kA ld) (eP (eC 6 kA ld) (eP IB (eP (eC 8 kA ld) Au)))))))
abbrev bK : E := eC 1 mQ fh
abbrev VO : E := eP bK aq
abbrev Er : E := .o2 .fA mQ (eP fh (eP Zb VO))
abbrev rI : E := eC 1 Er fh
abbrev qP : E := eP aI aq
abbrev Uv : E := eP ka (eP bU (eP Er (eP rI qP)))
abbrev ZH : E := .o2 .lt rI (.uf 297 Uv)
abbrev AW : E := .o2 .le aq (.o2 (.mf .s) bU Re)
abbrev V0 : aa := fF tK (fF IB os5)
abbrev Jf : E := eP ka (eP bU (eP Er (eP rI (eP aI Au))))
abbrev sk : E := .o1 .ab mQ
abbrev cw : E := .il 1000000
abbrev bI : E := .o1 .ab ka
abbrev Ib : E := .uf 296 Uv
abbrev Ia : E := .uf 295 Uv
abbrev X4 : E := eP Ia (eP bU (eP Ib (eP rI Au)))
abbrev acY : E := eP Ia (eP bU (eP Ib (eP rI aq)))
abbrev OA : E := .o2 .fS (.o2 .cJ ka aI) (eP Re aq)
abbrev PA : E := .o2 (.mp .s) bU (eP Re (eP sk aq))
abbrev Of : E := .o2 .fS mQ (eP Zb qP)
abbrev JV : E := .o2 .add aI (.il 1)
abbrev En : E := .o2 .sub JV (.il 1)
abbrev Uw : E := eP OA (eP PA (eP Of (eP En Au)))
abbrev aeN : E := eP OA (eP PA (eP Of (eP En aq)))
abbrev aeg (x : E) : List Ob := oT OA (.uf 281 Uw) (oO (.o2 .le aI bI) (oO (.o2 .le aq aI) (oT Of (.uf 282 Uw) (oO (.o2 .aN En (.uf 283 Uw)) (oO (.o2 .le (.o2 .add sk (.il 1)) cw) (oO (.o2 .le (.o2 .add (.o1 .ab (.o2 .cJ ka aI)) (.il 1)) cw) (oO (.o2 .le JV cw) (oO (.o2 .lt En JV) (oO (.o2 .le aq En) (oO (.uf 287 (eP OA (eP PA (eP Of (eP JV aq))))) (oO (.o2 .le En (.il 9223372036854775807)) (oO (.o2 .le (.il (-9223372036854775808)) En) (oO (.o2 .le aq JV) (oO (.o2 .le aI (.il 2147483648)) (oO (.o2 .le aI bI) (oO (.o2 .le aq aI) (oO (.o2 .le aq aI) (oO (.uf 110 (eP rp (eP rn (eP (eC 5 kA ld) aq)))) (oO (.uf 110 (eP rp (eP rn (eP (eC 5 kA ld) aq)))) (oO (.o2 .aN aq (kY x)) (oO (.o2 .beq (.bl false) (eC 1 gd x)) (oT aq (nT x) (oT aq (eC 3 gd x) (oO (.o2 .seq (.sl []) (eC 4 gd x)) (oT aq (eC 5 gd x) (oT (.uf 286 aeN) sc (oT (.uf 285 aeN) r8 (oP PA Bx (oO (.o2 .aN JV Lp) RK)))))))))))))))))))))))))))))
abbrev aeO : aa := fF (.o2 .aN zU (.il 1)) (fT os4 [])
abbrev Vr : aa := fT (.o2 .aN zU (.il 2)) aeO
abbrev QD : E := eP (eC 9 kA ld) aq
abbrev Gl : E := .uf 101 QD
abbrev Mn : E := eP Gl aq
abbrev Cf : E := eP ka (eP aI (eP bU (eP mQ (eP Gl Au))))
abbrev dA : E := .o1 .ab bU
abbrev Yv : E := eP bU (eP mQ aq)
abbrev Ra : E := eP ka (eP aI (eP bU (eP mQ (eP Gl (eP (.uf 212 Mn) aq)))))
abbrev abZ (x : E) : List Ob := oO (.o2 .beq (.bl false) (eC 1 gd x)) (oT aq (nT x) (oT aq (eC 3 gd x) (oO (.o2 .seq (.sl []) (eC 4 gd x)) (oT aq (eC 5 gd x) (oT (.uf 305 Ra) sc (oT (.uf 302 Ra) r8 (oP (.uf 304 Ra) Bx (oO (.o2 .aN (.uf 303 Ra) Lp) RK))))))))
abbrev aca : aa := fF (.o2 .aN zU (.il 2)) aeO
abbrev Yd : aa := fT (.o2 .aN zU (.il 3)) aca
abbrev ad6 : aa := fF tK (fF IB Yd)
abbrev Xv (x : E) : List Ob := oO (.o2 .aN aq (kY x)) (Ki x)
abbrev adI (x : E) : List Ob := oO (.uf 110 (eP rp (eP rn (eP (eC 5 kA ld) aq)))) (oO (.uf 110 (eP rp (eP rn (eP (eC 5 kA ld) aq)))) (Xv x))
abbrev adE : aa := fF (.o2 .aN zU (.il 3)) aca
abbrev WY : aa := fT (.o2 .aN zU (.il 4)) adE
abbrev ai : E := .o2 .sub aI (.il 1)
abbrev EV : E := eC 0 ka ai
abbrev aaX : E := .o2 .le aq (.o2 (.mf .s) bU EV)
abbrev aem : aa := fT AW (fF IB WY)
abbrev acP : aa := fT (.o2 .aN ai bK) aem
abbrev Nd : List Ob := oO (.o2 .aN ai Lp) RK
abbrev QP : List Ob := oP bU Bx Nd
abbrev uM : E := .o2 .fA (.o2 .fA ka (eP bK (eP EV aq))) (eP ai (eP (eC 0 ka bK) aq))
abbrev WN : E := .o2 (.mf .s) bU (eC 0 uM bK)
abbrev sO : E := eC 1 bU WN
abbrev aef : E := .o2 .fA mQ (eP sO (eP (eC 0 mQ sO) VO))
abbrev Vc : E := .o2 (.mf .s) bU (eC 0 uM ai)
abbrev sD : E := eC 1 bU Vc
abbrev NX : E := eP ai aq
abbrev yu : E := .o2 .fA aef (eP sD (eP (eC 0 aef sD) NX))
abbrev Xm : E := eP uM (eP bU (eP yu (eP bK NX)))
abbrev rY : E := .uf 295 Xm
abbrev Ms : E := .o2 (.mf .s) bU (eC 0 rY ai)
abbrev Rp : E := .o2 .lt bK (.uf 297 Xm)
abbrev adb : aa := fF (.o2 .aN ai bK) aem
abbrev acd : aa := fT (.o2 .le aq WN) adb
abbrev PJ : aa := fT (.o2 .le aq Vc) acd
abbrev uI : E := eP uM (eP bU (eP yu (eP bK (eP ai Au))))
abbrev qw : E := .uf 296 Xm
abbrev vQ : E := eP rY (eP bU (eP qw VO))
abbrev Cn : E := eC 0 (.uf 285 vQ) ai
abbrev SR : E := .o2 .le aq (.o2 (.mf .s) bU Cn)
abbrev zX : E := eP rY (eP bU (eP qw (eP bK Au)))
abbrev zE : List Ob := oO (.bl false) []
abbrev lz : E := eP bU aq
abbrev wk : E := .uf 106 (eP (.uf 200 lz) aq)
abbrev iD : E := .o2 .cJ wk dA
abbrev GW : E := .o2 .aN (.o1 .ab iD) aq
abbrev Tc : aa := fF (.o2 .aN zU (.il 4)) adE
abbrev H3 : aa := fT (.o2 .aN zU (.il 5)) Tc
abbrev Tm : aa := fT tK (fT GW H3)
abbrev SP (x : E) : List Ob := oO (.o2 .le dA (.o1 .ab wk)) (oO (.o2 .le dA (.il 4611686018427387903)) (oO (.o2 .aN dA (.o1 .ab (.uf 200 lz))) (oO (.uf 201 lz) (oO (.o2 .le dA cw) (oO (.o2 .le dA (.il 2147483648)) (oO (.o2 .le dA (.il 2147483648)) (WL x)))))))
abbrev nN : E := .o2 .fA (.o2 .fA ka (eP aq (eP EV aq))) (eP ai (eP (eC 0 ka aq) aq))
abbrev CP : E := .o2 (.mf .s) bU (eC 0 nN aq)
abbrev lv : E := eC 1 bU CP
abbrev Tn : E := .o2 .fA mQ (eP lv (eP (eC 0 mQ lv) Au))
abbrev Dz : E := .o2 (.mf .s) bU (eC 0 nN ai)
abbrev lM : E := eC 1 bU Dz
abbrev qq : E := .o2 .fA Tn (eP lM (eP (eC 0 Tn lM) NX))
abbrev qh : E := eP nN (eP bU (eP qq (eP aq NX)))
abbrev MF : E := eC 0 (.uf 295 qh) ai
abbrev HZ : E := .o2 .le aq (.o2 (.mf .s) bU MF)
abbrev Tb : aa := fF (.o2 .aN aI aq) Tm
abbrev SA : aa := fT (.o2 .le aq CP) Tb
abbrev SO : aa := fT (.o2 .le aq Dz) SA
abbrev yl : E := eC 1 bU (.o2 (.mf .s) bU MF)
abbrev lB : E := eC 0 (.uf 296 qh) yl
abbrev nP : E := eP nN (eP bU (eP qq (eP aq (eP ai Au))))
abbrev RW (x : E) : List Ob := oO (.o2 .le dA (.o1 .ab wk)) (oO (.o2 .le dA (.il 4611686018427387903)) (oO (.o2 .aN dA (.o1 .ab (.uf 200 lz))) (oO (.uf 201 lz) (oO (.o2 .le dA cw) (oO (.o2 .le dA (.il 2147483648)) (oO (.o2 .le dA (.il 2147483648)) (oO (.o2 .aN aq (kY x)) (oO (.o2 .beq (.bl false) (eC 1 gd x)) (oT (eP (eC 0 lB aq) (eP (eC 1 lB aq) (eP (eC 2 lB aq) (eP (eC 3 lB aq) (eP (eC 4 lB aq) (eP (eC 5 lB aq) (eP (eC 6 lB aq) (eP (eC 7 lB aq) aq)))))))) (nT x) (oT aq (eC 3 gd x) (oO (.o2 .seq (.sl []) (eC 4 gd x)) (oT aq (eC 5 gd x) (oT (.uf 296 qh) sc (oT (.uf 295 qh) r8 (oP (.o2 (.md .s) bU MF) Bx Nd)))))))))))))))
abbrev TF (x : E) : List Ob := oO (.o2 .le dA (.o1 .ab wk)) (oO (.o2 .le dA (.il 4611686018427387903)) (oO (.o2 .aN dA (.o1 .ab (.uf 200 lz))) (oO (.uf 201 lz) (oO (.o2 .le dA cw) (oO (.o2 .le dA (.il 2147483648)) (oO (.o2 .le dA (.il 2147483648)) (oO (.o2 .aN (.il 5) (kY x)) (oO (.o2 .beq (.bl false) (eC 1 gd x)) (oT aq (nT x) (oT aq (eC 3 gd x) (oO (.o2 .seq (.sl []) (eC 4 gd x)) (oT aq (eC 5 gd x) (oT (.uf 296 qh) sc (oT (.uf 295 qh) r8 QP))))))))))))))
abbrev Td : aa := fF (.o2 .aN aI aq) (fF GW H3)
abbrev Sc : aa := fT (.o2 .le aq CP) Td
abbrev Se : aa := fT (.o2 .le aq Dz) Sc
abbrev Tv : aa := fF (.o2 .aN zU (.il 5)) Tc
abbrev NO : E := .uf 300 (eP iD Yv)
abbrev Tq : aa := fF (.o2 .aN zU (.il 6)) Tv
abbrev Te : aa := fF (.o2 .aN zU (.il 7)) Tq
abbrev LR : aa := fT (.o2 .aN zU (.il 8)) Te
abbrev oF : E := eC 0 mQ fh
abbrev zW : E := .o2 (.mf .s) bU (eC 10 kA ld)
abbrev Tk : aa := fF (.o2 .aN zU (.il 8)) Te
abbrev Sg : aa := fT (.o2 .aN zU (.il 10)) Tk
abbrev pn : E := eC 0 mQ (eC 1 bU zW)
abbrev SE : aa := fF (.o2 .aN zU (.il 10)) Tk
def hmG (x : E) : List (aa × List Ob) :=
 [(fT IB os5, PH x),
  (fT tK (fF IB os5), aao x),
  (fT ZH (fT AW V0), oT ka (.uf 291 Jf) (oT Er (.uf 292 Jf) (oO (.o2 .aN rI (.uf 293 Jf)) (oO (.o2 .le sk cw) (oO (.o2 .le bI cw) (oO (.o2 .le aI cw) (oO (.o2 .le aq aI) (oO (.o2 .le rI cw) (oO (.o2 .le aq rI) (oO (.uf 287 (eP ka (eP bU (eP Er qP)))) (oO (.o2 .le aq aI) (oO (.o2 .le aq fh) (oO (.o2 .le aq fh) (oO (.o2 .le aq fh) (oO (.o2 .le aq fh) (oO (.o2 .le aq fh) (oO (.o2 .le aq fh) (oO (.uf 110 (eP rp (eP rn (eP (eC 5 kA ld) aq)))) (oO (.uf 110 (eP rp (eP rn (eP (eC 5 kA ld) aq)))) (oO (.o2 .aN aq (kY x)) (oO (.o2 .beq (.bl false) (eC 1 gd x)) (oT aq (nT x) (oT aq (eC 3 gd x) (oO (.o2 .seq (.sl []) (eC 4 gd x)) (oT aq (eC 5 gd x) (oT Ib sc (oT Ia r8 Vp))))))))))))))))))))))))))),
  (fF ZH (fT AW V0), oT Ia (.uf 281 X4) (oT Ib (.uf 282 X4) (oO (.o2 .aN rI (.uf 283 X4)) (oO (.o2 .le (.o1 .ab Ib) cw) (oO (.o2 .le (.o1 .ab Ia) cw) (oO (.o2 .le aI cw) (oO (.o2 .lt rI aI) (oO (.o2 .le aq rI) (oO (.uf 287 (eP Ia (eP bU (eP Ib qP)))) (oT ka (.uf 291 Jf) (oT Er (.uf 292 Jf) (oO (.o2 .aN rI (.uf 293 Jf)) (oO (.o2 .le sk cw) (oO (.o2 .le bI cw) (oO (.o2 .le aI cw) (oO (.o2 .le aq aI) (oO (.o2 .le rI cw) (oO (.o2 .le aq rI) (oO (.uf 287 (eP ka (eP bU (eP Er qP)))) (oO (.o2 .le aq aI) (oO (.o2 .le aq fh) (oO (.o2 .le aq fh) (oO (.o2 .le aq fh) (oO (.o2 .le aq fh) (oO (.o2 .le aq fh) (oO (.o2 .le aq fh) (oO (.uf 110 (eP rp (eP rn (eP (eC 5 kA ld) aq)))) (oO (.uf 110 (eP rp (eP rn (eP (eC 5 kA ld) aq)))) (oO (.o2 .aN aq (kY x)) (oO (.o2 .beq (.bl false) (eC 1 gd x)) (oT aq (nT x) (oT aq (eC 3 gd x) (oO (.o2 .seq (.sl []) (eC 4 gd x)) (oT aq (eC 5 gd x) (oT (.uf 286 acY) sc (oT (.uf 285 acY) r8 Vp)))))))))))))))))))))))))))))))))))),
  (fF AW V0, aeg x),
  (fT tK Vr, oO (.o2 .le (.o1 .ab (eC 9 kA ld)) (.il 2147483647)) (oO (.uf 111 QD) (WL x))),
  (fT (.uf 211 Mn) (fF tK Vr), oO (.o2 .aN aI (.uf 303 Cf)) (oP bU (.uf 304 Cf) (oT ka (.uf 302 Cf) (oT mQ (.uf 305 Cf) (oO (.o2 .le dA (.il 500000)) (oO (.o2 .le sk (.il 500000)) (oO (.o2 .le bI (.il 500000)) (oO (.o2 .le aI (.il 500000)) (oO (.o2 .le aq aI) (oO (.o2 .le (.o1 .ab Gl) (.il 20)) (oO (.uf 308 (eP ka (eP aI Yv))) (oO (.o2 .le (.o1 .ab Gl) cw) (oO (.uf 213 Mn) (oO (.o2 .le (.o1 .ab (eC 9 kA ld)) (.il 2147483647)) (oO (.uf 111 QD) (oO (.o2 .aN (.il 1) (kY x)) (abZ x))))))))))))))))),
  (fF (.uf 211 Mn) (fF tK Vr), oO (.o2 .aN aI (.uf 303 Cf)) (oP bU (.uf 304 Cf) (oT ka (.uf 302 Cf) (oT mQ (.uf 305 Cf) (oO (.o2 .le dA (.il 500000)) (oO (.o2 .le sk (.il 500000)) (oO (.o2 .le bI (.il 500000)) (oO (.o2 .le aI (.il 500000)) (oO (.o2 .le aq aI) (oO (.o2 .le (.o1 .ab Gl) (.il 20)) (oO (.uf 308 (eP ka (eP aI Yv))) (oO (.o2 .le (.o1 .ab Gl) cw) (oO (.uf 213 Mn) (oO (.o2 .le (.o1 .ab (eC 9 kA ld)) (.il 2147483647)) (oO (.uf 111 QD) (oO (.o2 .aN aq (kY x)) (abZ x))))))))))))))))),
  (fT IB Yd, PH x),
  (fT tK (fF IB Yd), aao x),
  (fT AW ad6, adI x),
  (fF AW ad6, aeg x),
  (fT IB WY, PH x),
  (fT aaX acP, oO (.o2 .le aq (eC 1 bU (.o2 (.mf .s) bU EV))) (oO (.o2 .le aq (eC 1 bU (.o2 (.mf .s) bU EV))) (oO (.o2 .le aq (eC 1 bU (.o2 (.mf .s) bU EV))) (oO (.o2 .le ai aI) (oO (.o2 .le aq ai) (oO (.o2 .le ai (.il 9223372036854775807)) (oO (.o2 .le (.il (-9223372036854775808)) ai) (oO (.o2 .le aq aI) (oO (.o2 .lt ai bI) (oO (.o2 .le aq ai) (oO (.o2 .lt ai aI) (oO (.o2 .le aq ai) (oO (.o2 .le ai (.il 9223372036854775807)) (oO (.o2 .le (.il (-9223372036854775808)) ai) (oO (.o2 .le aq aI) (oO (.o2 .le ai (.il 9223372036854775807)) (oO (.o2 .le (.il (-9223372036854775808)) ai) (oO (.o2 .le aq aI) (oO (.o2 .le aq fh) (oO (.o2 .le aq fh) (oO (.o2 .le aq fh) (oO (.uf 110 (eP rp (eP rn (eP (eC 5 kA ld) aq)))) (oO (.uf 110 (eP rp (eP rn (eP (eC 5 kA ld) aq)))) (oO (.o2 .aN aq (kY x)) (oO (.o2 .beq (.bl false) (eC 1 gd x)) (oT aq (nT x) (oT aq (eC 3 gd x) (oO (.o2 .seq (.sl []) (eC 4 gd x)) (oT aq (eC 5 gd x) (oT mQ sc (oT ka r8 (oP (.o2 (.md .s) bU EV) Bx Nd)))))))))))))))))))))))))))))))),
  (fF aaX acP, oO (.o2 .le ai aI) (oO (.o2 .le aq ai) (oO (.o2 .le ai (.il 9223372036854775807)) (oO (.o2 .le (.il (-9223372036854775808)) ai) (oO (.o2 .le aq aI) (oO (.o2 .lt ai bI) (oO (.o2 .le aq ai) (oO (.o2 .lt ai aI) (oO (.o2 .le aq ai) (oO (.o2 .le ai (.il 9223372036854775807)) (oO (.o2 .le (.il (-9223372036854775808)) ai) (oO (.o2 .le aq aI) (oO (.o2 .le ai (.il 9223372036854775807)) (oO (.o2 .le (.il (-9223372036854775808)) ai) (oO (.o2 .le aq aI) (oO (.o2 .le aq fh) (oO (.o2 .le aq fh) (oO (.o2 .le aq fh) (oO (.uf 110 (eP rp (eP rn (eP (eC 5 kA ld) aq)))) (oO (.uf 110 (eP rp (eP rn (eP (eC 5 kA ld) aq)))) (oO (.o2 .aN aq (kY x)) (oO (.o2 .beq (.bl false) (eC 1 gd x)) (oT aq (nT x) (oT aq (eC 3 gd x) (oO (.o2 .seq (.sl []) (eC 4 gd x)) (oT aq (eC 5 gd x) (oT mQ sc (oT ka r8 QP)))))))))))))))))))))))))))),
  (fT (.o2 .le aq Ms) (fT Rp PJ), oO (.o2 .le aq (eC 1 bU Ms)) (oO (.o2 .le aq (eC 1 bU Ms)) (oO (.o2 .le aq (eC 1 bU Ms)) (oO (.o2 .le ai aI) (oO (.o2 .le aq ai) (oO (.o2 .le ai (.il 9223372036854775807)) (oO (.o2 .le (.il (-9223372036854775808)) ai) (oO (.o2 .le aq aI) (oO (.o2 .lt ai (.o1 .ab rY)) (oO (.o2 .le aq ai) (oO (.o2 .lt ai aI) (oO (.o2 .le aq ai) (oO (.o2 .le ai (.il 9223372036854775807)) (oO (.o2 .le (.il (-9223372036854775808)) ai) (oO (.o2 .le aq aI) (oT uM (.uf 291 uI) (oT yu (.uf 292 uI) (oO (.o2 .aN bK (.uf 293 uI)) (oO (.o2 .le sk cw) (oO (.o2 .le bI cw) (oO (.o2 .le aI cw) (oO (.o2 .le ai aI) (oO (.o2 .le aq ai) (oO (.o2 .le bK cw) (oO (.o2 .le aq bK) (oO (.uf 287 (eP uM (eP bU (eP yu qP)))) (oO (.o2 .le aq sD) (oO (.o2 .le aq sD) (oO (.o2 .le aq sD) (oO (.o2 .lt ai bI) (oO (.o2 .le aq ai) (oO (.o2 .lt ai aI) (oO (.o2 .le aq ai) (oO (.o2 .le aq sO) (oO (.o2 .le aq sO) (oO (.o2 .le aq sO) (oO (.o2 .lt bK bI) (oO (.o2 .le aq bK) (oO (.o2 .lt bK aI) (oO (.o2 .le aq bK) (oO (.o2 .lt ai bI) (oO (.o2 .lt ai bI) (oO (.o2 .le aq ai) (oO (.o2 .lt ai aI) (oO (.o2 .le aq ai) (oO (.o2 .lt bK bI) (oO (.o2 .lt bK bI) (oO (.o2 .le aq bK) (oO (.o2 .lt bK aI) (oO (.o2 .le aq bK) (oO (.o2 .lt bK bI) (oO (.o2 .le aq bK) (oO (.o2 .lt bK aI) (oO (.o2 .le aq bK) (oO (.o2 .lt ai bI) (oO (.o2 .le aq ai) (oO (.o2 .lt ai aI) (oO (.o2 .le aq ai) (oO (.o2 .le ai (.il 9223372036854775807)) (oO (.o2 .le (.il (-9223372036854775808)) ai) (oO (.o2 .le aq aI) (oO (.o2 .le aq fh) (oO (.o2 .le aq fh) (oO (.o2 .le aq fh) (oO (.uf 110 (eP rp (eP rn (eP (eC 5 kA ld) aq)))) (oO (.uf 110 (eP rp (eP rn (eP (eC 5 kA ld) aq)))) (oO (.o2 .aN aq (kY x)) (oO (.o2 .beq (.bl false) (eC 1 gd x)) (oT aq (nT x) (oT aq (eC 3 gd x) (oO (.o2 .seq (.sl []) (eC 4 gd x)) (oT aq (eC 5 gd x) (oT qw sc (oT rY r8 (oP (.o2 (.md .s) bU (eC 0 rY ai)) Bx Nd))))))))))))))))))))))))))))))))))))))))))))))))))))))))))))))))))))))))))),
  (fF (.o2 .le aq Ms) (fT Rp PJ), oO (.o2 .le ai aI) (oO (.o2 .le aq ai) (oO (.o2 .le ai (.il 9223372036854775807)) (oO (.o2 .le (.il (-9223372036854775808)) ai) (oO (.o2 .le aq aI) (oO (.o2 .lt ai (.o1 .ab rY)) (oO (.o2 .le aq ai) (oO (.o2 .lt ai aI) (oO (.o2 .le aq ai) (oO (.o2 .le ai (.il 9223372036854775807)) (oO (.o2 .le (.il (-9223372036854775808)) ai) (oO (.o2 .le aq aI) (oT uM (.uf 291 uI) (oT yu (.uf 292 uI) (oO (.o2 .aN bK (.uf 293 uI)) (oO (.o2 .le sk cw) (oO (.o2 .le bI cw) (oO (.o2 .le aI cw) (oO (.o2 .le ai aI) (oO (.o2 .le aq ai) (oO (.o2 .le bK cw) (oO (.o2 .le aq bK) (oO (.uf 287 (eP uM (eP bU (eP yu qP)))) (oO (.o2 .le aq sD) (oO (.o2 .le aq sD) (oO (.o2 .le aq sD) (oO (.o2 .lt ai bI) (oO (.o2 .le aq ai) (oO (.o2 .lt ai aI) (oO (.o2 .le aq ai) (oO (.o2 .le aq sO) (oO (.o2 .le aq sO) (oO (.o2 .le aq sO) (oO (.o2 .lt bK bI) (oO (.o2 .le aq bK) (oO (.o2 .lt bK aI) (oO (.o2 .le aq bK) (oO (.o2 .lt ai bI) (oO (.o2 .lt ai bI) (oO (.o2 .le aq ai) (oO (.o2 .lt ai aI) (oO (.o2 .le aq ai) (oO (.o2 .lt bK bI) (oO (.o2 .lt bK bI) (oO (.o2 .le aq bK) (oO (.o2 .lt bK aI) (oO (.o2 .le aq bK) (oO (.o2 .lt bK bI) (oO (.o2 .le aq bK) (oO (.o2 .lt bK aI) (oO (.o2 .le aq bK) (oO (.o2 .lt ai bI) (oO (.o2 .le aq ai) (oO (.o2 .lt ai aI) (oO (.o2 .le aq ai) (oO (.o2 .le ai (.il 9223372036854775807)) (oO (.o2 .le (.il (-9223372036854775808)) ai) (oO (.o2 .le aq aI) (oO (.o2 .le aq fh) (oO (.o2 .le aq fh) (oO (.o2 .le aq fh) (oO (.uf 110 (eP rp (eP rn (eP (eC 5 kA ld) aq)))) (oO (.uf 110 (eP rp (eP rn (eP (eC 5 kA ld) aq)))) (oO (.o2 .aN aq (kY x)) (oO (.o2 .beq (.bl false) (eC 1 gd x)) (oT aq (nT x) (oT aq (eC 3 gd x) (oO (.o2 .seq (.sl []) (eC 4 gd x)) (oT aq (eC 5 gd x) (oT qw sc (oT rY r8 QP))))))))))))))))))))))))))))))))))))))))))))))))))))))))))))))))))))))),
  (fT SR (fF Rp PJ), oO (.o2 .le aq (eC 1 bU (.o2 (.mf .s) bU Cn))) (oO (.o2 .le aq (eC 1 bU (.o2 (.mf .s) bU Cn))) (oO (.o2 .le aq (eC 1 bU (.o2 (.mf .s) bU Cn))) (oO (.o2 .le ai aI) (oO (.o2 .le aq ai) (oO (.o2 .le ai (.il 9223372036854775807)) (oO (.o2 .le (.il (-9223372036854775808)) ai) (oO (.o2 .le aq aI) (oO (.o2 .lt ai (.o1 .ab (.uf 285 vQ))) (oO (.o2 .le aq ai) (oO (.o2 .lt ai aI) (oO (.o2 .le aq ai) (oO (.o2 .le ai (.il 9223372036854775807)) (oO (.o2 .le (.il (-9223372036854775808)) ai) (oO (.o2 .le aq aI) (oT rY (.uf 281 zX) (oT qw (.uf 282 zX) (oO (.o2 .aN bK (.uf 283 zX)) (oO (.o2 .le (.o1 .ab qw) cw) (oO (.o2 .le (.o1 .ab rY) cw) (oO (.o2 .le aI cw) (oO (.o2 .lt bK aI) (oO (.o2 .le aq bK) (oO (.uf 287 (eP rY (eP bU (eP qw qP)))) (oT uM (.uf 291 uI) (oT yu (.uf 292 uI) (oO (.o2 .aN bK (.uf 293 uI)) (oO (.o2 .le sk cw) (oO (.o2 .le bI cw) (oO (.o2 .le aI cw) (oO (.o2 .le ai aI) (oO (.o2 .le aq ai) (oO (.o2 .le bK cw) (oO (.o2 .le aq bK) (oO (.uf 287 (eP uM (eP bU (eP yu qP)))) (oO (.o2 .le aq sD) (oO (.o2 .le aq sD) (oO (.o2 .le aq sD) (oO (.o2 .lt ai bI) (oO (.o2 .le aq ai) (oO (.o2 .lt ai aI) (oO (.o2 .le aq ai) (oO (.o2 .le aq sO) (oO (.o2 .le aq sO) (oO (.o2 .le aq sO) (oO (.o2 .lt bK bI) (oO (.o2 .le aq bK) (oO (.o2 .lt bK aI) (oO (.o2 .le aq bK) (oO (.o2 .lt ai bI) (oO (.o2 .lt ai bI) (oO (.o2 .le aq ai) (oO (.o2 .lt ai aI) (oO (.o2 .le aq ai) (oO (.o2 .lt bK bI) (oO (.o2 .lt bK bI) (oO (.o2 .le aq bK) (oO (.o2 .lt bK aI) (oO (.o2 .le aq bK) (oO (.o2 .lt bK bI) (oO (.o2 .le aq bK) (oO (.o2 .lt bK aI) (oO (.o2 .le aq bK) (oO (.o2 .lt ai bI) (oO (.o2 .le aq ai) (oO (.o2 .lt ai aI) (oO (.o2 .le aq ai) (oO (.o2 .le ai (.il 9223372036854775807)) (oO (.o2 .le (.il (-9223372036854775808)) ai) (oO (.o2 .le aq aI) (oO (.o2 .le aq fh) (oO (.o2 .le aq fh) (oO (.o2 .le aq fh) (oO (.uf 110 (eP rp (eP rn (eP (eC 5 kA ld) aq)))) (oO (.uf 110 (eP rp (eP rn (eP (eC 5 kA ld) aq)))) (oO (.o2 .aN aq (kY x)) (oO (.o2 .beq (.bl false) (eC 1 gd x)) (oT aq (nT x) (oT aq (eC 3 gd x) (oO (.o2 .seq (.sl []) (eC 4 gd x)) (oT aq (eC 5 gd x) (oT (.uf 286 vQ) sc (oT (.uf 285 vQ) r8 (oP (.o2 (.md .s) bU Cn) Bx Nd)))))))))))))))))))))))))))))))))))))))))))))))))))))))))))))))))))))))))))))))))))),
  (fF SR (fF Rp PJ), oO (.o2 .le ai aI) (oO (.o2 .le aq ai) (oO (.o2 .le ai (.il 9223372036854775807)) (oO (.o2 .le (.il (-9223372036854775808)) ai) (oO (.o2 .le aq aI) (oO (.o2 .lt ai (.o1 .ab (.uf 285 vQ))) (oO (.o2 .le aq ai) (oO (.o2 .lt ai aI) (oO (.o2 .le aq ai) (oO (.o2 .le ai (.il 9223372036854775807)) (oO (.o2 .le (.il (-9223372036854775808)) ai) (oO (.o2 .le aq aI) (oT rY (.uf 281 zX) (oT qw (.uf 282 zX) (oO (.o2 .aN bK (.uf 283 zX)) (oO (.o2 .le (.o1 .ab qw) cw) (oO (.o2 .le (.o1 .ab rY) cw) (oO (.o2 .le aI cw) (oO (.o2 .lt bK aI) (oO (.o2 .le aq bK) (oO (.uf 287 (eP rY (eP bU (eP qw qP)))) (oT uM (.uf 291 uI) (oT yu (.uf 292 uI) (oO (.o2 .aN bK (.uf 293 uI)) (oO (.o2 .le sk cw) (oO (.o2 .le bI cw) (oO (.o2 .le aI cw) (oO (.o2 .le ai aI) (oO (.o2 .le aq ai) (oO (.o2 .le bK cw) (oO (.o2 .le aq bK) (oO (.uf 287 (eP uM (eP bU (eP yu qP)))) (oO (.o2 .le aq sD) (oO (.o2 .le aq sD) (oO (.o2 .le aq sD) (oO (.o2 .lt ai bI) (oO (.o2 .le aq ai) (oO (.o2 .lt ai aI) (oO (.o2 .le aq ai) (oO (.o2 .le aq sO) (oO (.o2 .le aq sO) (oO (.o2 .le aq sO) (oO (.o2 .lt bK bI) (oO (.o2 .le aq bK) (oO (.o2 .lt bK aI) (oO (.o2 .le aq bK) (oO (.o2 .lt ai bI) (oO (.o2 .lt ai bI) (oO (.o2 .le aq ai) (oO (.o2 .lt ai aI) (oO (.o2 .le aq ai) (oO (.o2 .lt bK bI) (oO (.o2 .lt bK bI) (oO (.o2 .le aq bK) (oO (.o2 .lt bK aI) (oO (.o2 .le aq bK) (oO (.o2 .lt bK bI) (oO (.o2 .le aq bK) (oO (.o2 .lt bK aI) (oO (.o2 .le aq bK) (oO (.o2 .lt ai bI) (oO (.o2 .le aq ai) (oO (.o2 .lt ai aI) (oO (.o2 .le aq ai) (oO (.o2 .le ai (.il 9223372036854775807)) (oO (.o2 .le (.il (-9223372036854775808)) ai) (oO (.o2 .le aq aI) (oO (.o2 .le aq fh) (oO (.o2 .le aq fh) (oO (.o2 .le aq fh) (oO (.uf 110 (eP rp (eP rn (eP (eC 5 kA ld) aq)))) (oO (.uf 110 (eP rp (eP rn (eP (eC 5 kA ld) aq)))) (oO (.o2 .aN aq (kY x)) (oO (.o2 .beq (.bl false) (eC 1 gd x)) (oT aq (nT x) (oT aq (eC 3 gd x) (oO (.o2 .seq (.sl []) (eC 4 gd x)) (oT aq (eC 5 gd x) (oT (.uf 286 vQ) sc (oT (.uf 285 vQ) r8 QP)))))))))))))))))))))))))))))))))))))))))))))))))))))))))))))))))))))))))))))))),
  (fF (.o2 .le aq Vc) acd, zE),
  (fF (.o2 .le aq WN) adb, zE),
  (fF AW (fF IB WY), oO (.uf 110 (eP rp (eP rn (eP (eC 5 kA ld) aq)))) (oO (.uf 110 (eP rp (eP rn (eP (eC 5 kA ld) aq)))) (oO (.o2 .aN (.il 14) (kY x)) (Ki x)))),
  (fT (.o2 .aN aI aq) Tm, oO (.o2 .aN dA (.o1 .ab iD)) (SP x)),
  (fT HZ SO, oO (.uf 110 (eP (eC 0 lB aq) (eP (eC 1 lB aq) (eP (eC 4 lB aq) aq)))) (oO (.o2 .le aq yl) (oO (.o2 .le aq yl) (oO (.o2 .le aq yl) (oO (.o2 .le ai aI) (oO (.o2 .le aq ai) (oO (.o2 .le ai (.il 9223372036854775807)) (oO (.o2 .le (.il (-9223372036854775808)) ai) (oO (.o2 .le aq aI) (oO (.o2 .lt ai (.o1 .ab (.uf 295 qh))) (oO (.o2 .le aq ai) (oO (.o2 .lt ai aI) (oO (.o2 .le aq ai) (oO (.o2 .le ai (.il 9223372036854775807)) (oO (.o2 .le (.il (-9223372036854775808)) ai) (oO (.o2 .le aq aI) (oT nN (.uf 291 nP) (oT qq (.uf 292 nP) (oO (.o2 .aN aq (.uf 293 nP)) (oO (.o2 .le sk cw) (oO (.o2 .le bI cw) (oO (.o2 .le aI cw) (oO (.o2 .le ai aI) (oO (.o2 .le aq ai) (oO (.uf 287 (eP nN (eP bU (eP qq qP)))) (oO (.o2 .le aq lM) (oO (.o2 .le aq lM) (oO (.o2 .le aq lM) (oO (.o2 .lt ai bI) (oO (.o2 .le aq ai) (oO (.o2 .lt ai aI) (oO (.o2 .le aq ai) (oO (.o2 .le aq lv) (oO (.o2 .le aq lv) (oO (.o2 .le aq lv) (oO (.o2 .lt aq bI) (oO (.o2 .lt aq aI) (oO (.o2 .lt ai bI) (oO (.o2 .lt ai bI) (oO (.o2 .le aq ai) (oO (.o2 .lt ai aI) (oO (.o2 .le aq ai) (oO (.o2 .lt aq bI) (oO (.o2 .lt aq bI) (oO (.o2 .lt aq aI) (oO (.o2 .lt aq bI) (oO (.o2 .lt aq aI) (oO (.o2 .lt ai bI) (oO (.o2 .le aq ai) (oO (.o2 .lt ai aI) (oO (.o2 .le aq ai) (oO (.o2 .le ai (.il 9223372036854775807)) (oO (.o2 .le (.il (-9223372036854775808)) ai) (oO (.o2 .le aq aI) (oO (.o2 .le aq aI) (oO (.o2 .aN dA (.o1 .ab iD)) (RW x))))))))))))))))))))))))))))))))))))))))))))))))))))))))),
  (fF HZ SO, oO (.o2 .le ai aI) (oO (.o2 .le aq ai) (oO (.o2 .le ai (.il 9223372036854775807)) (oO (.o2 .le (.il (-9223372036854775808)) ai) (oO (.o2 .le aq aI) (oO (.o2 .lt ai (.o1 .ab (.uf 295 qh))) (oO (.o2 .le aq ai) (oO (.o2 .lt ai aI) (oO (.o2 .le aq ai) (oO (.o2 .le ai (.il 9223372036854775807)) (oO (.o2 .le (.il (-9223372036854775808)) ai) (oO (.o2 .le aq aI) (oT nN (.uf 291 nP) (oT qq (.uf 292 nP) (oO (.o2 .aN aq (.uf 293 nP)) (oO (.o2 .le sk cw) (oO (.o2 .le bI cw) (oO (.o2 .le aI cw) (oO (.o2 .le ai aI) (oO (.o2 .le aq ai) (oO (.uf 287 (eP nN (eP bU (eP qq qP)))) (oO (.o2 .le aq lM) (oO (.o2 .le aq lM) (oO (.o2 .le aq lM) (oO (.o2 .lt ai bI) (oO (.o2 .le aq ai) (oO (.o2 .lt ai aI) (oO (.o2 .le aq ai) (oO (.o2 .le aq lv) (oO (.o2 .le aq lv) (oO (.o2 .le aq lv) (oO (.o2 .lt aq bI) (oO (.o2 .lt aq aI) (oO (.o2 .lt ai bI) (oO (.o2 .lt ai bI) (oO (.o2 .le aq ai) (oO (.o2 .lt ai aI) (oO (.o2 .le aq ai) (oO (.o2 .lt aq bI) (oO (.o2 .lt aq bI) (oO (.o2 .lt aq aI) (oO (.o2 .lt aq bI) (oO (.o2 .lt aq aI) (oO (.o2 .lt ai bI) (oO (.o2 .le aq ai) (oO (.o2 .lt ai aI) (oO (.o2 .le aq ai) (oO (.o2 .le ai (.il 9223372036854775807)) (oO (.o2 .le (.il (-9223372036854775808)) ai) (oO (.o2 .le aq aI) (oO (.o2 .le aq aI) (oO (.o2 .aN dA (.o1 .ab iD)) (TF x))))))))))))))))))))))))))))))))))))))))))))))))))))),
  (fF (.o2 .le aq Dz) SA, zE),
  (fF (.o2 .le aq CP) Tb, zE),
  (fF tK (fT GW H3), oO (.o2 .aN dA (.o1 .ab iD)) (oO (.o2 .le dA (.o1 .ab wk)) (oO (.o2 .le dA (.il 4611686018427387903)) (oO (.o2 .aN dA (.o1 .ab (.uf 200 lz))) (oO (.uf 201 lz) (oO (.o2 .le dA cw) (oO (.o2 .le dA (.il 2147483648)) (oO (.o2 .le dA (.il 2147483648)) (oO (.o2 .aN (.il 99) (kY x)) (Ki x)))))))))),
  (fT (.o2 .aN aI aq) (fF GW H3), oO (.o2 .or (.o2 .lt aq aI) tK) (oO (.o2 .aN dA (.o1 .ab iD)) (oO (.o2 .le (.o1 .ab iD) cw) (SP x)))),
  (fT HZ Se, oO (.uf 110 (eP (eC 0 lB aq) (eP (eC 1 lB aq) (eP (eC 4 lB aq) aq)))) (oO (.o2 .le aq yl) (oO (.o2 .le aq yl) (oO (.o2 .le aq yl) (oO (.o2 .le ai aI) (oO (.o2 .le aq ai) (oO (.o2 .le ai (.il 9223372036854775807)) (oO (.o2 .le (.il (-9223372036854775808)) ai) (oO (.o2 .le aq aI) (oO (.o2 .lt ai (.o1 .ab (.uf 295 qh))) (oO (.o2 .le aq ai) (oO (.o2 .lt ai aI) (oO (.o2 .le aq ai) (oO (.o2 .le ai (.il 9223372036854775807)) (oO (.o2 .le (.il (-9223372036854775808)) ai) (oO (.o2 .le aq aI) (oT nN (.uf 291 nP) (oT qq (.uf 292 nP) (oO (.o2 .aN aq (.uf 293 nP)) (oO (.o2 .le sk cw) (oO (.o2 .le bI cw) (oO (.o2 .le aI cw) (oO (.o2 .le ai aI) (oO (.o2 .le aq ai) (oO (.uf 287 (eP nN (eP bU (eP qq qP)))) (oO (.o2 .le aq lM) (oO (.o2 .le aq lM) (oO (.o2 .le aq lM) (oO (.o2 .lt ai bI) (oO (.o2 .le aq ai) (oO (.o2 .lt ai aI) (oO (.o2 .le aq ai) (oO (.o2 .le aq lv) (oO (.o2 .le aq lv) (oO (.o2 .le aq lv) (oO (.o2 .lt aq bI) (oO (.o2 .lt aq aI) (oO (.o2 .lt ai bI) (oO (.o2 .lt ai bI) (oO (.o2 .le aq ai) (oO (.o2 .lt ai aI) (oO (.o2 .le aq ai) (oO (.o2 .lt aq bI) (oO (.o2 .lt aq bI) (oO (.o2 .lt aq aI) (oO (.o2 .lt aq bI) (oO (.o2 .lt aq aI) (oO (.o2 .lt ai bI) (oO (.o2 .le aq ai) (oO (.o2 .lt ai aI) (oO (.o2 .le aq ai) (oO (.o2 .le ai (.il 9223372036854775807)) (oO (.o2 .le (.il (-9223372036854775808)) ai) (oO (.o2 .le aq aI) (oO (.o2 .or (.o2 .lt aq aI) tK) (oO (.o2 .le aq aI) (oO (.o2 .aN dA (.o1 .ab iD)) (oO (.o2 .le (.o1 .ab iD) cw) (RW x))))))))))))))))))))))))))))))))))))))))))))))))))))))))))),
  (fF HZ Se, oO (.o2 .le ai aI) (oO (.o2 .le aq ai) (oO (.o2 .le ai (.il 9223372036854775807)) (oO (.o2 .le (.il (-9223372036854775808)) ai) (oO (.o2 .le aq aI) (oO (.o2 .lt ai (.o1 .ab (.uf 295 qh))) (oO (.o2 .le aq ai) (oO (.o2 .lt ai aI) (oO (.o2 .le aq ai) (oO (.o2 .le ai (.il 9223372036854775807)) (oO (.o2 .le (.il (-9223372036854775808)) ai) (oO (.o2 .le aq aI) (oT nN (.uf 291 nP) (oT qq (.uf 292 nP) (oO (.o2 .aN aq (.uf 293 nP)) (oO (.o2 .le sk cw) (oO (.o2 .le bI cw) (oO (.o2 .le aI cw) (oO (.o2 .le ai aI) (oO (.o2 .le aq ai) (oO (.uf 287 (eP nN (eP bU (eP qq qP)))) (oO (.o2 .le aq lM) (oO (.o2 .le aq lM) (oO (.o2 .le aq lM) (oO (.o2 .lt ai bI) (oO (.o2 .le aq ai) (oO (.o2 .lt ai aI) (oO (.o2 .le aq ai) (oO (.o2 .le aq lv) (oO (.o2 .le aq lv) (oO (.o2 .le aq lv) (oO (.o2 .lt aq bI) (oO (.o2 .lt aq aI) (oO (.o2 .lt ai bI) (oO (.o2 .lt ai bI) (oO (.o2 .le aq ai) (oO (.o2 .lt ai aI) (oO (.o2 .le aq ai) (oO (.o2 .lt aq bI) (oO (.o2 .lt aq bI) (oO (.o2 .lt aq aI) (oO (.o2 .lt aq bI) (oO (.o2 .lt aq aI) (oO (.o2 .lt ai bI) (oO (.o2 .le aq ai) (oO (.o2 .lt ai aI) (oO (.o2 .le aq ai) (oO (.o2 .le ai (.il 9223372036854775807)) (oO (.o2 .le (.il (-9223372036854775808)) ai) (oO (.o2 .le aq aI) (oO (.o2 .or (.o2 .lt aq aI) tK) (oO (.o2 .le aq aI) (oO (.o2 .aN dA (.o1 .ab iD)) (oO (.o2 .le (.o1 .ab iD) cw) (TF x))))))))))))))))))))))))))))))))))))))))))))))))))))))),
  (fF (.o2 .le aq Dz) Sc, zE),
  (fF (.o2 .le aq CP) Td, zE),
  (fT (.o2 .aN zU (.il 6)) Tv, oO (.o2 .le (.o1 .ab NO) cw) (oO (.uf 113 (eP NO aq)) (oO (.o2 .aN dA (.o1 .ab iD)) (oO (.uf 301 (eP iD lz)) (oO (.o2 .le (.o1 .ab iD) cw) (oO (.o2 .le dA (.o1 .ab wk)) (oO (.o2 .le dA (.il 4611686018427387903)) (oO (.o2 .aN dA (.o1 .ab (.uf 200 lz))) (oO (.uf 201 lz) (oO (.o2 .le dA cw) (oO (.o2 .le dA (.il 2147483648)) (oO (.o2 .le dA (.il 2147483648)) (oO (.o2 .aN aq (kY x)) (oO (.o2 .beq (.bl false) (eC 1 gd x)) (oT (.uf 102 (eP NO aq)) (nT x) (PO x)))))))))))))))),
  (fT (.o2 .aN zU (.il 7)) Tq, oO (.o2 .le (.o1 .ab iD) cw) (oO (.o2 .aN dA (.o1 .ab iD)) (oO (.o2 .le (.o1 .ab iD) cw) (oO (.o2 .le dA (.o1 .ab wk)) (oO (.o2 .le dA (.il 4611686018427387903)) (oO (.o2 .aN dA (.o1 .ab (.uf 200 lz))) (oO (.uf 201 lz) (oO (.o2 .le dA cw) (oO (.o2 .le dA (.il 2147483648)) (oO (.o2 .le dA (.il 2147483648)) (oO (.o2 .aN aq (kY x)) (oO (.o2 .beq (.bl false) (eC 1 gd x)) (oT aq (nT x) (oT (.uf 106 (eP iD aq)) (eC 3 gd x) (abk x))))))))))))))),
  (fT IB LR, PH x),
  (fT AW (fF IB LR), oO (.uf 110 (eP (eC 0 oF aq) (eP (eC 1 oF aq) (eP (eC 4 oF aq) aq)))) (oO (.o2 .le aq fh) (oO (.o2 .le aq fh) (oO (.o2 .le aq fh) (oO (.uf 110 (eP rp (eP rn (eP (eC 5 kA ld) aq)))) (oO (.uf 110 (eP rp (eP rn (eP (eC 5 kA ld) aq)))) (oO (.o2 .aN aq (kY x)) (oO (.o2 .beq (.bl true) (eC 1 gd x)) (oT (eP (eC 0 oF aq) (eP (eC 1 oF aq) (eP (eC 2 oF aq) (eP (eC 3 oF aq) (eP (eC 4 oF aq) (eP (eC 5 oF aq) (eP (eC 6 oF aq) (eP (eC 7 oF aq) aq)))))))) (nT x) (PO x)))))))))),
  (fF AW (fF IB LR), adI x),
  (fT (.o2 .le aq zW) Sg, oO (.uf 110 (eP (eC 0 pn aq) (eP (eC 1 pn aq) (eP (eC 4 pn aq) aq)))) (oO (.o2 .le aq (eC 1 bU zW)) (oO (.o2 .le aq (eC 1 bU zW)) (oO (.o2 .le aq (eC 1 bU zW)) (oO (.o2 .aN aq (kY x)) (oO (.o2 .beq (.bl true) (eC 1 gd x)) (oT (eP (eC 0 pn aq) (eP (eC 1 pn aq) (eP (eC 2 pn aq) (eP (eC 3 pn aq) (eP (eC 4 pn aq) (eP (eC 5 pn aq) (eP (eC 6 pn aq) (eP (eC 7 pn aq) aq)))))))) (nT x) (PO x)))))))),
  (fF (.o2 .le aq zW) Sg, Xv x),
  (fT (.o2 .aN zU (.il 9)) SE, oO (.o2 .aN aq (kY x)) (oO (.o2 .beq (.bl false) (eC 1 gd x)) (oT aq (nT x) (oT aq (eC 3 gd x) (oO (.o2 .seq (.sl []) (eC 4 gd x)) (oT aq (eC 5 gd x) (oT mQ sc (oT ka r8 (oP bU Bx (oO (.o2 .aN aI Lp) (oO (.o2 .beq (.bl true) (.uf 314 I3)) []))))))))))),
  (fF (.o2 .aN zU (.il 9)) SE, Xv x)]
abbrev R5 : List Ob := oT mQ (.uf 317 (eP kA aq)) []
def Wl : List (aa × List Ob) :=
 hmG (.il 0) ++ [(fF os4 [], oT aq gd R5)]
def XD : List (aa × List Ob) :=
 hmG (.v 2207) ++ [(fF os4 [], oO (.o2 .le ld (.o1 .ab gd)) (oT (.o2 .cJ gd ld) gd R5))]
end Go.Proofs.YtdlppkhmmclipaaGreat.sxObj
namespace Go.Proofs.YtdlppkhmmclipaaGreat.sxObj
open Go.Sx Go.RowKit Go.Proofs.YtdlppkhmmclipaaGreat
set_option linter.unusedVariables false
set_option linter.unusedSimpArgs false
set_option maxRecDepth 100000
set_option maxHeartbeats 4000000
theorem ae2 {p : Row} : ju (cc p 1).S (cc p 2).S = bd p := id rfl
theorem ac4 {p : Row} : O2.den .b9 (cc p 1) (O2.den .b9 (cc p 2) (O2.den .b9 (cc p 3) (O2.den .b9 (cc p 4) (O2.den .b9 (cc p 5) (O2.den .b9 (cc p 6) (O2.den .b9 (cc p 7) (O2.den .b9 (cc p 8) (O2.den .b9 (.i 0) (.i 0))))))))) = dO p := id rfl
theorem Zw {h : HM} {k : Dv} : (cc (row (.t h.A) (dR (.t h.I) k).toNat) 1).I = fY h k := id rfl
theorem acJ {h : HM} {i : Nat} : cc (row (.t h.B) i) 0 = h.key i := id rfl
theorem yH {h : HM} {i j : Nat} : (h.B.set i [h.key j]).set j [h.key i] = (bn h i j).B := id rfl
theorem yN {h : HM} {i j a : Nat} : cc (row (.t (bn h i j).B) a) 0 = (bn h i j).key a := id rfl
theorem H5 {h : HM} {i j : Nat} : (h.A.set (dR (.t h.I) ((bn h i j).key i)).toNat [cc (row (.t h.A) (dR (.t h.I) ((bn h i j).key i)).toNat) 0, .i i]).set (dR (.t h.I) ((bn h i j).key j)).toNat [cc (row (.t (h.A.set (dR (.t h.I) ((bn h i j).key i)).toNat [cc (row (.t h.A) (dR (.t h.I) ((bn h i j).key i)).toNat) 0, .i i])) (dR (.t h.I) ((bn h i j).key j)).toNat) 0, .i j] = (bn h i j).A := id rfl
theorem HG {h : HM} {j : Nat} : (h.A.set (dR (.t h.I) ((bn h 0 j).key 0)).toNat [cc (row (.t h.A) (dR (.t h.I) ((bn h 0 j).key 0)).toNat) 0, .i 0]).set (dR (.t h.I) ((bn h 0 j).key j)).toNat [cc (row (.t (h.A.set (dR (.t h.I) ((bn h 0 j).key 0)).toNat [cc (row (.t h.A) (dR (.t h.I) ((bn h 0 j).key 0)).toNat) 0, .i 0])) (dR (.t h.I) ((bn h 0 j).key j)).toNat) 0, .i j] = (bn h 0 j).A := id rfl
section
variable {h : HM} {i j m r a : Nat}
theorem Bi : (dE (.t (bn h i j).B) (.t h.I) (.t (bn h i j).A) m r (ym (.t (bn h i j).B) (.t h.I) (.t (bn h i j).A) m r)).A = (cR (bn h i j) m r).A := id rfl
theorem Ak : (dE (.t (bn h i j).B) (.t h.I) (.t (bn h i j).A) m r (ym (.t (bn h i j).B) (.t h.I) (.t (bn h i j).A) m r)).B = (cR (bn h i j) m r).B := id rfl
theorem A4 : (dE (.t (bn h i j).B) (.t h.I) (.t (bn h i j).A) m r (ym (.t (bn h i j).B) (.t h.I) (.t (bn h i j).A) m r)).j = B4 (bn h i j) m r := id rfl
theorem AU : (eh (.t (cR (bn h i j) m r).B) (.t h.I) (.t (cR (bn h i j) m r).A) a (Cx (.t (cR (bn h i j) m r).B) (.t h.I) (.t (cR (bn h i j) m r).A) a)).A = (p5 (cR (bn h i j) m r) a).A := id rfl
theorem A9 : (eh (.t (cR (bn h i j) m r).B) (.t h.I) (.t (cR (bn h i j) m r).A) a (Cx (.t (cR (bn h i j) m r).B) (.t h.I) (.t (cR (bn h i j) m r).A) a)).B = (p5 (cR (bn h i j) m r) a).B := id rfl
theorem sE : cc (row (.t h.B) a) 0 = h.key a := id rfl
end
theorem P5 {h h' : HM} (v : fZ h) (h0 : 0 < h.n) (m : ∀ x, h'.mem x ↔ (bn h 0 (h.n - 1)).mem x) (c : eG h') (hm : h.n - 1 < h.n) (e : h'.key (h.n - 1) = (bn h 0 (h.n - 1)).key (h.n - 1)) (hn : h'.n = h.n := by rfl) : h'.ob (h.n - 1) = h.ob 0 := by
 have hb := v.c.dK.n; have q := c.k (h.n - 1) (by omega)
 obtain ⟨i, hi, r⟩ := (BO h0 hm hb _).1 ((m _).1 ⟨h.n - 1, by omega, rfl⟩)
 rw [e, Bs (by omega) (by omega), uD, <- r, v.c.k i hi] at q
 rw [<- r, v.c.d i 0 hi h0 q]
theorem RV {d : Dv} : ∀ l : List Row, dP .s d l = dP .s (.s d.S) l
 | [] => rfl
 | x :: l => by
   show (bif KQ.s.eq _ d then _ else _) = (bif KQ.s.eq _ d then _ else _); rw [RV l]
theorem X1 {d : Dv} {l : List Row} : aQ .s d l = aQ .s (.s d.S) l := by
 unfold aQ; rw [RV l]
theorem agO {d : Dv} {I : Dv} : dR I d = dR I (.s d.S) := by
 unfold dR; rw [X1]
theorem KL {Q Q' : Nat -> Prop} {n : Nat} (h : ∀ j, j < n -> (Q j ↔ Q' j)) : gN Q n = gN Q' n := by
 have e : ∀ j, j < n -> (!dec (Q j)) = (!dec (Q' j)) := fun j hj => congrArg (fun P => !dec P) (propext (h j hj)); have ha : gN Q n <= n := ke; have hb : gN Q' n <= n := ke; rcases Nat.lt_trichotomy (gN Q n) (gN Q' n) with q | q | q
 ·have h1 : (!dec (Q (gN Q n))) = true := ny (show stop (fun j => !dec (Q j)) n < n from Nat.lt_of_lt_of_le q hb); have h2 : (!dec (Q' (gN Q n))) = false := bJ (show gN Q n < stop (fun j => !dec (Q' j)) n from q); rw [e _ (Nat.lt_of_lt_of_le q hb), h2] at h1; cases h1
 ·exact q
 ·have h1 : (!dec (Q' (gN Q' n))) = true := ny (show stop (fun j => !dec (Q' j)) n < n from Nat.lt_of_lt_of_le q ha); have h2 : (!dec (Q (gN Q' n))) = false := bJ (show gN Q' n < stop (fun j => !dec (Q j)) n from q); rw [<- e _ (Nat.lt_of_lt_of_le q ha), h2] at h1; cases h1
theorem SL {l : Dv} : gN (qa (.t (l.T.map lF))) l.T.length = gN (qb l) l.T.length :=
 KL fun j hj => Lo hj
section
variable {o : Env}
theorem GZ (hu : OU o) (hv : OV o) (hh : OH o) (hj : OJ o) {r : Nat} (hr : o.v 2207 = .i r) (hent : (HW.aU 0).ay o) (hle : (r : Int) <= ((aB (.v 7780)).den o).I) {x : E} (hx : x.den o = .i r) : bo o (hmG x) := by
 simp only [HW, Dl, cP, aB, pk, List.foldr, SS, implies_true, hj.hp, al] at hent hle; obtain ⟨hf, hlen⟩ := hent; obtain ⟨gg, go, gl, gv, gr, gn, gb, gi, ga⟩ := lE hf r (by omega)
 simp only [hmG, af, au, and_true]
 and_intros
 all_goals intro h
 all_goals simp only [SS, implies_true, hr, hx, hh.all, hu.mB, hu.Mb, hu.I0, hu.Ma, hu.jt, hu.m8, hu.Ij, hv.Qu, hv.MZ, hv.OR, hv.Iu, hv.P9, hj.hb, hj.hp, DX, al, cD, Classical.not_not, P1, Xh, Ot, Q5, tnn, tni] at h ⊢
 all_goals have hl : r < (o.v 7780).T.length := by omega
 all_goals have hA := wJ hl
 all_goals have hS : gU (o.v 7780) (r + 1) = (bM (row (o.v 7780) r) (gU (o.v 7780) r)).1 := rfl
 all_goals obtain ⟨K, p2, p3⟩ := hf.1 r hl
 all_goals have K : Pt (cc (row (o.v 7780) r) 1) (cc (row (o.v 7780) r) 2) (cc (row (o.v 7780) r) 5) := K
 all_goals generalize gU (o.v 7780) r = s at *
 all_goals generalize row (o.v 7780) r = p at *
 all_goals try simp only [ae2, ac4, n6, Zw, acJ, aaH, aaV, aeI, adK, ZJ, aby, abT] at h ⊢
 ·rw [Ou (by omega) h.1] at hA hS; rw [hA, hS]
  exact ⟨K, K, rfl, rfl, rfl, rfl, rfl, rfl, rfl, rfl, List.Perm.refl _, rfl, rfl⟩
 ·rw [JJ (by omega) h.2.1, if_pos h.1] at hA hS; rw [hA, hS]
  exact ⟨K, K, rfl, rfl, rfl, rfl, rfl, rfl, rfl, rfl, List.Perm.refl _, rfl, rfl⟩
 ·obtain ⟨hx, hh2, hcl, hgd, h1, _⟩ := h; have hc : jf (dO p) (.s (bd p)) := mO hgd K; have hset := pT gv.c hh2 hc; have hnn := Hz gv.c hh2; obtain ⟨_, _, _, _, _, _, j0, j1⟩ := oI gv hh2 hc
  have e1 : fq s.h (.s (bd p)) (dO p) = cR (bf s.h (.s (bd p)) (dO p)) s.h.n (fY (bf s.h (.s (bd p)) (dO p)) (.s (bd p))).toNat := by
   rw [Bh hh2]; unfold fv gB; rw [if_pos]; exact (Int.toNat_lt j0).2 hx
  rw [JJ (by omega) hgd, if_neg (by rw [hcl]; exact fun q => by cases q), show fq s.h (gY p) (dO p) = _ from e1] at hA hS; rw [hA, hS]
  have hin2 := hset.dK; have hu2 := sh gv hh2 hc; have ul : (bf s.h (.s (bd p)) (dO p)).A.length = s.h.A.length := List.length_set ..
  repeat' refine And.intro ?_ ?_
  all_goals first
   | rfl
   | omega
   | assumption
   | exact List.Perm.refl _
   | exact bt gv.c.u
   | trivial
   | exact K.1
   | exact K.2.1
   | exact K.2.2
   | exact hbn2.symm
   | exact gg.i
   | exact gg.g
 ·obtain ⟨hx, hh2, hcl, hgd, h1, _⟩ := h; have hc : jf (dO p) (.s (bd p)) := mO hgd K; have hset := pT gv.c hh2 hc; have hnn := Hz gv.c hh2; obtain ⟨_, _, _, _, _, _, j0, j1⟩ := oI gv hh2 hc
  have e1 : fq s.h (.s (bd p)) (dO p) = p5 (cR (bf s.h (.s (bd p)) (dO p)) s.h.n (fY (bf s.h (.s (bd p)) (dO p)) (.s (bd p))).toNat) (fY (bf s.h (.s (bd p)) (dO p)) (.s (bd p))).toNat := by
   rw [Bh hh2]; unfold fv gB; rw [if_neg]; exact fun q => hx ((Int.toNat_lt j0).1 q)
  rw [JJ (by omega) hgd, if_neg (by rw [hcl]; exact fun q => by cases q), show fq s.h (gY p) (dO p) = _ from e1] at hA hS; rw [hA, hS]
  have hin2 := hset.dK; have hu2 := sh gv hh2 hc; have hin3 := hu2.c.dK; have ul : (bf s.h (.s (bd p)) (dO p)).A.length = s.h.A.length := List.length_set ..; have ul2 := hu2.l; have ub2 : (cR (bf s.h (.s (bd p)) (dO p)) s.h.n (fY (bf s.h (.s (bd p)) (dO p)) (.s (bd p))).toNat).B.length = s.h.B.length := hu2.b
  repeat' refine And.intro ?_ ?_
  all_goals first
   | rfl
   | omega
   | assumption
   | exact List.Perm.refl _
   | exact bt gv.c.u
   | trivial
   | exact K.1
   | exact K.2.1
   | exact K.2.2
   | exact hbn2.symm
   | exact gg.i
   | exact gg.g
 ·obtain ⟨hh2, hcl, hgd, h1, _⟩ := h; have hc : jf (dO p) (.s (bd p)) := mO hgd K
  have e1 : fq s.h (.s (bd p)) (dO p) = p5 (bX s.h (.s (bd p)) (dO p)) s.h.n := by
   rw [Hv hh2]; rfl
  rw [JJ (by omega) hgd, if_neg (by rw [hcl]; exact fun q => by cases q), show fq s.h (gY p) (dO p) = _ from e1] at hA hS; rw [hA, hS]
  have hin2 := (rJ gv.c hh2 hc).dK; have hbn := gv.c.dK.n; have htk : (List.take s.h.n s.h.B).length <= s.h.n := by rw [List.length_take]; omega
  repeat' refine And.intro ?_ ?_
  all_goals first
   | rfl
   | omega
   | assumption
   | exact List.Perm.refl _
   | exact bt gv.c.u
   | trivial
   | exact K.1
   | exact K.2.1
   | exact K.2.2
   | exact hbn2.symm
   | exact gg.i
   | exact gg.g
 ·rw [Vh (by omega), if_pos h.1] at hA hS; rw [hA, hS]
  repeat' refine And.intro ?_ ?_
  all_goals first
   | rfl
   | omega
   | assumption
   | exact List.Perm.refl _
   | exact bt gv.c.u
   | trivial
   | exact K.1
   | exact K.2.1
   | exact K.2.2
   | exact hbn2.symm
   | exact gg.i
   | exact gg.g
 ·have e1 : ¬ dec (ee (qb (cc p 9)) (cc p 9).T.length) = true := fun q => h.1 (LI.2 (al.1 q)); rw [Vh (by omega), if_neg (by rw [h.2.1]; exact fun q => by cases q), if_neg e1] at hA hS; rw [hA, hS]
  have e2 := Gt p2; have e3 : fZ ⟨s.h.B, s.h.n, s.h.I, s.h.A⟩ := gv; simp only [SL, List.length_map]
  repeat' refine And.intro ?_ ?_
  all_goals first
   | rfl
   | omega
   | assumption
   | exact List.Perm.refl _
   | exact bt gv.c.u
   | trivial
   | exact K.1
   | exact K.2.1
   | exact K.2.2
   | exact hbn2.symm
   | exact gg.i
   | exact gg.g
 ·have e1 : dec (ee (qb (cc p 9)) (cc p 9).T.length) = true := al.2 (LI.1 h.1); rw [Vh (by omega), if_neg (by rw [h.2.1]; exact fun q => by cases q), if_pos e1] at hA hS; rw [hA, hS]
  have e2 := Gt p2; have e3 : fZ ⟨s.h.B, s.h.n, s.h.I, s.h.A⟩ := gv; simp only [SL, List.length_map]
  repeat' refine And.intro ?_ ?_
  all_goals first
   | rfl
   | omega
   | assumption
   | exact List.Perm.refl _
   | exact bt gv.c.u
   | trivial
   | exact K.1
   | exact K.2.1
   | exact K.2.2
   | exact hbn2.symm
   | exact gg.i
   | exact gg.g
 ·rw [Ou (by omega) h.1] at hA hS; rw [hA, hS]
  exact ⟨K, K, rfl, rfl, rfl, rfl, rfl, rfl, rfl, rfl, List.Perm.refl _, rfl, rfl⟩
 ·rw [Vj (by omega) h.2.1, if_pos h.1] at hA hS; rw [hA, hS]
  exact ⟨K, K, rfl, rfl, rfl, rfl, rfl, rfl, rfl, rfl, List.Perm.refl _, rfl, rfl⟩
 ·rw [Vj (by omega) h.2.2.1, if_neg (by rw [h.2.1]; exact fun q => by cases q), if_pos ((eS gg gr gv).1 h.1)] at hA hS; rw [hA, hS]
  exact ⟨K, K, rfl, rfl, rfl, rfl, rfl, rfl, rfl, rfl, List.Perm.refl _, rfl, rfl⟩
 ·obtain ⟨hh2, hcl, hgd, h1, _⟩ := h; have hc : jf (dO p) (.s (bd p)) := mO hgd K; have e1 : jG s.h (.s (bd p)) (dO p) = p5 (bX s.h (.s (bd p)) (dO p)) s.h.n := rfl; rw [Vj (by omega) hgd, if_neg (by rw [hcl]; exact fun q => by cases q), if_neg fun q => hh2 ((eS gg gr gv).2 q), show jG s.h (gY p) (dO p) = _ from e1] at hA hS; rw [hA, hS]
  have hin2 := (rJ gv.c hh2 hc).dK; have hbn := gv.c.dK.n; have htk : (List.take s.h.n s.h.B).length <= s.h.n := by rw [List.length_take]; omega
  repeat' refine And.intro ?_ ?_
  all_goals first
   | rfl
   | omega
   | assumption
   | exact List.Perm.refl _
   | exact bt gv.c.u
   | trivial
   | exact K.1
   | exact K.2.1
   | exact K.2.2
   | exact hbn2.symm
   | exact gg.i
   | exact gg.g
 ·rw [Ou (by omega) h.1] at hA hS; rw [hA, hS]
  exact ⟨K, K, rfl, rfl, rfl, rfl, rfl, rfl, rfl, rfl, List.Perm.refl _, rfl, rfl⟩
 ·obtain ⟨h1, h2, h3, hgd, h4, _⟩ := h; have q := (eS gg gr gv).1 h3; obtain ⟨i, hi, e1, e2, e3, e4, e5, e6⟩ := get_at gg gr gv q; have hm1 : ((s.h.n : Int) - 1).toNat = s.h.n - 1 := by omega
  have eo : jx s.h (fY s.h (gY p)).toNat = dV s.h (s.h.n - 1) := by
   unfold jx; rw [if_pos]; show (fY s.h (.s (bd p))).toNat = _; omega
  rw [OF (by omega) hgd, if_pos q, eo] at hA hS; rw [hA, hS]
  rw [hm1]; have x1 := gv.c.dK.i (s.h.n - 1) (by omega)
  have hbn := gv.c.dK.n; have hbn2 : ((s.h.n - 1 : Nat) : Int) = (s.h.n : Int) - 1 := by omega
  repeat' refine And.intro ?_ ?_
  all_goals first
   | rfl
   | omega
   | assumption
   | exact List.Perm.refl _
   | exact bt gv.c.u
   | trivial
   | exact K.1
   | exact K.2.1
   | exact K.2.2
   | exact hbn2.symm
   | exact gg.i
   | exact gg.g
 ·exfalso; obtain ⟨h1, h2, h3, _⟩ := h; obtain ⟨i, hi, _⟩ := get_at gg gr gv ((eS gg gr gv).1 h3); exact h1 (gv.c.dK.k _ (by omega))
 ·have hk := (eS gg gr gv).1 (show 0 <= aQ KQ.s (Dv.s (bd p)) s.h.I by first | exact h.2.2.2.2.1 | exact h.2.2.2.2.2.1 | exact h.2.2.2.1)
  obtain ⟨i, hi, e1, e2, e3, e4, e5, e6⟩ := get_at gg gr gv hk; have hm1 : (s.h.n : Int) - 1 = ((s.h.n - 1 : Nat) : Int) := by omega
  have ec : cc (row (.t s.h.A) (dR (.t s.h.I) (.s (bd p))).toNat) 1 = .i (i : Int) := by rw [<- e3]; exact gv.c.p i hi
  simp only [e1, hm1, ec, Int.toNat_natCast, yH] at h ⊢; simp only [yN, H5] at h ⊢; simp only [Bi, Ak, A4, AU, A9, sE, n6] at h ⊢; obtain ⟨h1, h2, h3, h4, h5, h6, hgd, h7, _⟩ := h; have hbn := gv.c.dK.n; have hne : i ≠ s.h.n - 1 := fun q => h5 (by rw [q])
  have hm : s.h.n - 1 < s.h.n := by omega
  have c := fi gv.c hi hm; have hb : s.h.n - 1 < s.h.B.length := by omega
  have hpd : cz lh (bn s.h i (s.h.n - 1)).ob (s.h.n - 1) i := by
   rw [jv (by omega) hb]
   refine dB j5 ?_ (by omega)
   rw [show s.h.n - 1 + 1 = s.h.n by omega]
   exact gv.hp
  obtain ⟨u, _⟩ := iM c (j := i) (m := s.h.n - 1) hi (by show s.h.n - 1 <= s.h.n; omega) hpd
  have x1 := c.dK.i (s.h.n - 1) hm; have x2 := c.dK.i i hi; have x3 := u.c.dK.i (s.h.n - 1) (by rw [u.n]; exact hm)
  have x4 : (cR (bn s.h i (s.h.n - 1)) (s.h.n - 1) i).B.length = s.h.B.length := u.b.trans fu
  have eo : jx s.h (fY s.h (gY p)).toNat = dV (cR (bn s.h i (s.h.n - 1)) (s.h.n - 1) i) (s.h.n - 1) := by
   rw [show fY s.h (gY p) = i from e1, Int.toNat_natCast]; unfold jx gB; rw [if_neg hne, if_pos (by omega)]
  rw [OF (by omega) hgd, if_pos hk, eo] at hA hS; rw [hA, hS]
  repeat' refine And.intro ?_ ?_
  all_goals first
   | rfl
   | omega
   | assumption
   | exact x1
   | exact x2
   | exact x3
   | exact c.dK
   | exact List.Perm.refl _
   | trivial
   | exact K.1
   | exact K.2.1
   | exact K.2.2
 ·exfalso; have hd := h; have hk := (eS gg gr gv).1 (show 0 <= aQ KQ.s (Dv.s (bd p)) s.h.I by first | exact h.2.2.2.2.1 | exact h.2.2.2.2.2.1 | exact h.2.2.2.1)
  obtain ⟨i, hi, e1, e2, e3, e4, e5, e6⟩ := get_at gg gr gv hk; have hm1 : (s.h.n : Int) - 1 = ((s.h.n - 1 : Nat) : Int) := by omega
  have ec : cc (row (.t s.h.A) (dR (.t s.h.I) (.s (bd p))).toNat) 1 = .i (i : Int) := by rw [<- e3]; exact gv.c.p i hi
  simp only [e1, hm1, ec, Int.toNat_natCast, yH] at h ⊢; simp only [yN, H5] at h ⊢
  try simp only [Bi, Ak, A4, AU, A9, sE, n6] at h ⊢
  have hbn := gv.c.dK.n; have hm : s.h.n - 1 < s.h.n := by omega
  have c := fi gv.c hi hm; have hb : s.h.n - 1 < s.h.B.length := by omega
  have hpd : cz lh (bn s.h i (s.h.n - 1)).ob (s.h.n - 1) i := by
   rw [jv (by omega) hb]
   refine dB j5 ?_ (by omega)
   rw [show s.h.n - 1 + 1 = s.h.n by omega]
   exact gv.hp
  obtain ⟨u, pu, _, pj⟩ := iM c (j := i) (m := s.h.n - 1) hi (by show s.h.n - 1 <= s.h.n; omega) hpd
  obtain ⟨h1, h2, h3, h4, h5, _⟩ := h; have hne : i ≠ s.h.n - 1 := fun q => h5 (by rw [q])
  have x0 := c.dK.k (s.h.n - 1) hm
  first
   | exact h1 (u.c.dK.k (s.h.n - 1) (by rw [u.n]; exact hm))
   | exact h1 x0
 ·have hd := h; have hk := (eS gg gr gv).1 (show 0 <= aQ KQ.s (Dv.s (bd p)) s.h.I by first | exact h.2.2.2.2.1 | exact h.2.2.2.2.2.1 | exact h.2.2.2.1)
  obtain ⟨i, hi, e1, e2, e3, e4, e5, e6⟩ := get_at gg gr gv hk; have hm1 : (s.h.n : Int) - 1 = ((s.h.n - 1 : Nat) : Int) := by omega
  have ec : cc (row (.t s.h.A) (dR (.t s.h.I) (.s (bd p))).toNat) 1 = .i (i : Int) := by rw [<- e3]; exact gv.c.p i hi
  simp only [e1, hm1, ec, Int.toNat_natCast, yH] at h ⊢; simp only [yN, H5] at h ⊢
  try simp only [Bi, Ak, A4, AU, A9, sE, n6] at h ⊢
  have hbn := gv.c.dK.n; have hm : s.h.n - 1 < s.h.n := by omega
  have c := fi gv.c hi hm; have hb : s.h.n - 1 < s.h.B.length := by omega
  have hpd : cz lh (bn s.h i (s.h.n - 1)).ob (s.h.n - 1) i := by
   rw [jv (by omega) hb]
   refine dB j5 ?_ (by omega)
   rw [show s.h.n - 1 + 1 = s.h.n by omega]
   exact gv.hp
  obtain ⟨u, pu, _, pj⟩ := iM c (j := i) (m := s.h.n - 1) hi (by show s.h.n - 1 <= s.h.n; omega) hpd
  obtain ⟨h1, h2, h3, h4, h5, h6, hgd, h7, _⟩ := h; have hne : i ≠ s.h.n - 1 := fun q => h5 (by rw [q])
  have hni : ¬ i < B4 (bn s.h i (s.h.n - 1)) (s.h.n - 1) i := by omega
  have pu2 := pu; rw [pj hni] at pu2; obtain ⟨w, _⟩ := Br u.c (j := i) (m := s.h.n - 1) (by omega) (by rw [u.n]; show s.h.n - 1 <= s.h.n; omega) pu2
  have x1 := c.dK.i (s.h.n - 1) hm; have x2 := c.dK.i i hi; have x3 := w.c.dK.i (s.h.n - 1) (by rw [w.n, u.n]; exact hm)
  have x4 : (p5 (cR (bn s.h i (s.h.n - 1)) (s.h.n - 1) i) i).B.length = s.h.B.length := w.b.trans (u.b.trans fu); have x5 : (cR (bn s.h i (s.h.n - 1)) (s.h.n - 1) i).B.length = s.h.B.length := u.b.trans fu; have x6 : (cR (bn s.h i (s.h.n - 1)) (s.h.n - 1) i).A.length = s.h.A.length := u.l.trans kc; have x7 := u.c.dK
  have eo : jx s.h (fY s.h (gY p)).toNat = dV (p5 (cR (bn s.h i (s.h.n - 1)) (s.h.n - 1) i) i) (s.h.n - 1) := by
   rw [show fY s.h (gY p) = i from e1, Int.toNat_natCast]; unfold jx gB; rw [if_neg hne, if_neg (by omega)]
  rw [OF (by omega) hgd, if_pos hk, eo] at hA hS; rw [hA, hS]
  repeat' refine And.intro ?_ ?_
  all_goals first
   | rfl
   | omega
   | assumption
   | exact x1
   | exact x2
   | exact x3
   | exact x7
   | exact c.dK
   | exact List.Perm.refl _
   | trivial
   | exact K.1
   | exact K.2.1
   | exact K.2.2
 ·exfalso; have hk := (eS gg gr gv).1 (show 0 <= aQ KQ.s (Dv.s (bd p)) s.h.I by first | exact h.2.2.2.2.1 | exact h.2.2.2.2.2.1 | exact h.2.2.2.1)
  obtain ⟨i, hi, e1, e2, e3, e4, e5, e6⟩ := get_at gg gr gv hk; have hm1 : (s.h.n : Int) - 1 = ((s.h.n - 1 : Nat) : Int) := by omega
  have ec : cc (row (.t s.h.A) (dR (.t s.h.I) (.s (bd p))).toNat) 1 = .i (i : Int) := by rw [<- e3]; exact gv.c.p i hi
  simp only [e1, hm1, ec, Int.toNat_natCast, yH] at h ⊢; simp only [yN, H5] at h ⊢
  try simp only [Bi, Ak, A4, AU, A9, sE, n6] at h ⊢
  have hbn := gv.c.dK.n; have hm : s.h.n - 1 < s.h.n := by omega
  have c := fi gv.c hi hm; have hb : s.h.n - 1 < s.h.B.length := by omega
  have hpd : cz lh (bn s.h i (s.h.n - 1)).ob (s.h.n - 1) i := by
   rw [jv (by omega) hb]
   refine dB j5 ?_ (by omega)
   rw [show s.h.n - 1 + 1 = s.h.n by omega]
   exact gv.hp
  obtain ⟨u, pu, _, pj⟩ := iM c (j := i) (m := s.h.n - 1) hi (by show s.h.n - 1 <= s.h.n; omega) hpd
  obtain ⟨h1, h2, h3, h4, h5, _⟩ := h; have hne : i ≠ s.h.n - 1 := fun q => h5 (by rw [q])
  have hni : ¬ i < B4 (bn s.h i (s.h.n - 1)) (s.h.n - 1) i := by omega
  have pu2 := pu; rw [pj hni] at pu2; obtain ⟨w, _⟩ := Br u.c (j := i) (m := s.h.n - 1) (by omega) (by rw [u.n]; show s.h.n - 1 <= s.h.n; omega) pu2
  exact h1 (w.c.dK.k (s.h.n - 1) (by rw [w.n, u.n]; exact hm))
 ·have hd := h; exfalso; have hk := (eS gg gr gv).1 (show 0 <= aQ KQ.s (Dv.s (bd p)) s.h.I by first | exact h.2.2.2.2.1 | exact h.2.2.2.2.2.1 | exact h.2.2.2.1)
  obtain ⟨i, hi, e1, e2, e3, e4, e5, e6⟩ := get_at gg gr gv hk; have hm1 : (s.h.n : Int) - 1 = ((s.h.n - 1 : Nat) : Int) := by omega
  have ec : cc (row (.t s.h.A) (dR (.t s.h.I) (.s (bd p))).toNat) 1 = .i (i : Int) := by rw [<- e3]; exact gv.c.p i hi
  simp only [e1, hm1, ec, Int.toNat_natCast, yH] at h ⊢; simp only [yN, H5] at h ⊢
  try simp only [Bi, Ak, A4, AU, A9, sE, n6] at h ⊢
  have hbn := gv.c.dK.n; have hm : s.h.n - 1 < s.h.n := by omega
  have c := fi gv.c hi hm; have hb : s.h.n - 1 < s.h.B.length := by omega
  have hpd : cz lh (bn s.h i (s.h.n - 1)).ob (s.h.n - 1) i := by
   rw [jv (by omega) hb]
   refine dB j5 ?_ (by omega)
   rw [show s.h.n - 1 + 1 = s.h.n by omega]
   exact gv.hp
  obtain ⟨u, pu, _, pj⟩ := iM c (j := i) (m := s.h.n - 1) hi (by show s.h.n - 1 <= s.h.n; omega) hpd
  obtain ⟨h1, h2, _⟩ := h; exact h1 (c.dK.k (s.h.n - 1) hm)
 ·have hd := h; exfalso; have hk := (eS gg gr gv).1 (show 0 <= aQ KQ.s (Dv.s (bd p)) s.h.I from h.2.2.1); obtain ⟨i, hi, e1, e2, e3, e4, e5, e6⟩ := get_at gg gr gv hk; have hm1 : (s.h.n : Int) - 1 = ((s.h.n - 1 : Nat) : Int) := by omega
  have ec : cc (row (.t s.h.A) (dR (.t s.h.I) (.s (bd p))).toNat) 1 = .i (i : Int) := by rw [<- e3]; exact gv.c.p i hi
  simp only [e1, hm1, ec, Int.toNat_natCast, yH] at h ⊢
  try simp only [yN, H5] at h ⊢
  have hbn := gv.c.dK.n; have hm : s.h.n - 1 < s.h.n := by omega
  have c := fi gv.c hi hm; have hb : s.h.n - 1 < s.h.B.length := by omega
  have hpd : cz lh (bn s.h i (s.h.n - 1)).ob (s.h.n - 1) i := by
   rw [jv (by omega) hb]
   refine dB j5 ?_ (by omega)
   rw [show s.h.n - 1 + 1 = s.h.n by omega]
   exact gv.hp
  obtain ⟨u, pu, _, pj⟩ := iM c (j := i) (m := s.h.n - 1) hi (by show s.h.n - 1 <= s.h.n; omega) hpd
  obtain ⟨h1, h2, _⟩ := h; exact h1 (c.dK.k i hi)
 ·rw [OF (by omega) h.2.1, if_neg fun q => h.1 ((eS gg gr gv).2 q)] at hA hS; rw [hA, hS]
  repeat' refine And.intro ?_ ?_
  all_goals first
   | rfl
   | omega
   | assumption
   | exact List.Perm.refl _
   | exact bt gv.c.u
   | trivial
   | exact K.1
   | exact K.2.1
   | exact K.2.2
   | exact hbn2.symm
   | exact gg.i
   | exact gg.g
 ·have hz : s.S = [] := (lK gr).2 (by omega)
  rw [Qx (by omega), if_pos hz, if_pos h.2.1] at hA hS; rw [hA, hS]
  have e1 : eM (List.map dg s.h.I) = s.S.map bP := et gg gr gv; have e2 : s.h.I.length = s.S.length := j8 gg gr gv; have e3 : List.take s.S.length (s.S.map bP) = s.S.map bP := eH (by rw [List.length_map]; exact Nat.le_refl _)
  simp only [e1, e2, e3, List.length_map] at h ⊢
  repeat' refine And.intro ?_ ?_
  all_goals first
   | rfl
   | omega
   | assumption
   | exact List.Perm.refl _
   | exact bt gv.c.u
   | trivial
   | exact K.1
   | exact K.2.1
   | exact K.2.2
   | exact hbn2.symm
   | exact gg.i
   | exact gg.g
 ·exfalso; obtain ⟨_, _, _, h4, _, h6, _⟩ := h; have e1 : eM (List.map dg s.h.I) = s.S.map bP := et gg gr gv; have e2 : s.h.I.length = s.S.length := j8 gg gr gv; rw [e1, e2, List.length_take, List.length_map, Nat.min_self] at h6; have hz : s.S = [] := List.length_eq_zero_iff.1 (by omega)
  have := (lK gr).1 hz; omega
 ·exfalso; obtain ⟨_, _, _, h4, _, h6, _⟩ := h; have e1 : eM (List.map dg s.h.I) = s.S.map bP := et gg gr gv; have e2 : s.h.I.length = s.S.length := j8 gg gr gv; rw [e1, e2, List.length_take, List.length_map, Nat.min_self] at h6; have hz : s.S = [] := List.length_eq_zero_iff.1 (by omega)
  have := (lK gr).1 hz; omega
 ·exfalso; obtain ⟨_, _, h4, _, h6, _⟩ := h; have e1 : eM (List.map dg s.h.I) = s.S.map bP := et gg gr gv; have e2 : s.h.I.length = s.S.length := j8 gg gr gv; rw [e1, e2, List.length_take, List.length_map, Nat.min_self] at h6; have hz : s.S = [] := List.length_eq_zero_iff.1 (by omega)
  have := (lK gr).1 hz; omega
 ·exfalso; obtain ⟨_, h4, _, h6, _⟩ := h; have e1 : eM (List.map dg s.h.I) = s.S.map bP := et gg gr gv; have e2 : s.h.I.length = s.S.length := j8 gg gr gv; rw [e1, e2, List.length_take, List.length_map, Nat.min_self] at h6; have hz : s.S = [] := List.length_eq_zero_iff.1 (by omega)
  have := (lK gr).1 hz; omega
 ·have hd := h; have e1 : eM (List.map dg s.h.I) = s.S.map bP := et gg gr gv; have e2 : s.h.I.length = s.S.length := j8 gg gr gv; have e3 : List.take s.S.length (s.S.map bP) = s.S.map bP := eH (by rw [List.length_map]; exact Nat.le_refl _)
  simp only [e1, e2, e3, List.length_map] at h ⊢; have hz : s.S = [] := List.length_eq_zero_iff.1 (by omega)
  have hc : ¬ s.c = true := by rw [h.1]; exact fun q => by cases q
  rw [Qx (by omega), if_pos hz, if_neg hc] at hA hS; rw [hA, hS]
  repeat' refine And.intro ?_ ?_
  all_goals first
   | rfl
   | omega
   | assumption
   | exact List.Perm.refl _
   | exact bt gv.c.u
   | trivial
   | exact K.1
   | exact K.2.1
   | exact K.2.2
   | exact hbn2.symm
   | exact gg.i
   | exact gg.g
 ·exfalso; have e1 : eM (List.map dg s.h.I) = s.S.map bP := et gg gr gv; have hz : s.S = [] := (lK gr).2 (by omega)
  have h2 := h.2.1; rw [e1, hz] at h2; exact h2 (by simp)
 ·have hd := h; have h0 : 0 < s.h.n := by omega
  have hm1 : (s.h.n : Int) - 1 = ((s.h.n - 1 : Nat) : Int) := by omega
  simp only [hm1, Int.toNat_natCast, yH] at h ⊢; simp only [yN, HG] at h ⊢
  try simp only [Bi, Ak, A4, AU, A9, sE, n6] at h ⊢
  have hbn := gv.c.dK.n; have hm : s.h.n - 1 < s.h.n := by omega
  have c := fi gv.c h0 hm; have hb : s.h.n - 1 < s.h.B.length := by omega
  have hpd : cz lh (bn s.h 0 (s.h.n - 1)).ob (s.h.n - 1) 0 := by
   rcases Nat.eq_zero_or_pos (s.h.n - 1) with q | q
   ·rw [q]; exact ⟨fun k k0 kn => by omega, fun q => absurd q (Nat.lt_irrefl _)⟩
   ·rw [jv (by omega) hb]
    refine dB j5 ?_ q; rw [show s.h.n - 1 + 1 = s.h.n by omega]
    exact gv.hp
  obtain ⟨u, pu, _, pj⟩ := iM c (j := 0) (m := s.h.n - 1) h0 (by show s.h.n - 1 <= s.h.n; omega) hpd
  have ho := P5 gv h0 u.m u.c hm (vp (j := 0) (m := s.h.n - 1) (by show s.h.n - 1 <= (zu s.h.B 0 (s.h.n - 1)).length; rw [fu]; omega) _ _ (Nat.le_refl _) (Nat.le_refl _))
  have hz : s.S ≠ [] := fun q => h.2.2.2.1 (by have := (lK gr).1 q; omega)
  obtain ⟨pa, pb, pc⟩ := Lt gv h0; obtain ⟨ra, rb⟩ := vV gg gr gv h0 pc; have x1 := c.dK.i (s.h.n - 1) hm; have x2 := c.dK.i 0 h0; have x3 := u.c.dK.i (s.h.n - 1) (by rw [u.n]; exact hm)
  have x4 : (cR (bn s.h 0 (s.h.n - 1)) (s.h.n - 1) 0).B.length = s.h.B.length := u.b.trans fu; have x5 : (cR (bn s.h 0 (s.h.n - 1)) (s.h.n - 1) 0).A.length = s.h.A.length := u.l.trans kc; have x6 : jg ((cR (bn s.h 0 (s.h.n - 1)) (s.h.n - 1) 0).ob (s.h.n - 1)) := by rw [ho]; exact gv.c.dK.o 0 h0
  have x7 : eight ((cR (bn s.h 0 (s.h.n - 1)) (s.h.n - 1) 0).ob (s.h.n - 1)) = row (.t s.S) (bL (.t s.S) s.S.length) := by rw [ho]; exact ra
  rw [Qx (by omega), if_neg hz, <- x7] at hA hS; rw [hA, hS]
  have e1 : eM (List.map dg s.h.I) = s.S.map bP := et gg gr gv; have e2 : s.h.I.length = s.S.length := j8 gg gr gv; have e3 : List.take s.S.length (s.S.map bP) = s.S.map bP := eH (by rw [List.length_map]; exact Nat.le_refl _)
  simp only [e1, e2, e3, List.length_map] at h ⊢; have x8 : (decide (0 < (s.h.n : Int)) || s.c) = true := by rw [decide_eq_true (show 0 < (s.h.n : Int) by omega)]; rfl
  repeat' refine And.intro ?_ ?_
  all_goals first
   | rfl
   | omega
   | assumption
   | exact x6.1
   | exact x6.2.1
   | exact x6.2.2
   | exact bt gv.c.u
   | exact x1
   | exact x2
   | exact x3
   | exact x6
   | exact c.dK
   | exact u.c.dK
   | exact List.Perm.refl _
   | trivial
   | exact K.1
   | exact K.2.1
   | exact K.2.2
 ·exfalso; have h0 : 0 < s.h.n := by omega
  have hm1 : (s.h.n : Int) - 1 = ((s.h.n - 1 : Nat) : Int) := by omega
  simp only [hm1, Int.toNat_natCast, yH] at h ⊢; simp only [yN, HG] at h ⊢
  try simp only [Bi, Ak, A4, AU, A9, sE, n6] at h ⊢
  have hbn := gv.c.dK.n; have hm : s.h.n - 1 < s.h.n := by omega
  have c := fi gv.c h0 hm; have hb : s.h.n - 1 < s.h.B.length := by omega
  have hpd : cz lh (bn s.h 0 (s.h.n - 1)).ob (s.h.n - 1) 0 := by
   rcases Nat.eq_zero_or_pos (s.h.n - 1) with q | q
   ·rw [q]; exact ⟨fun k k0 kn => by omega, fun q => absurd q (Nat.lt_irrefl _)⟩
   ·rw [jv (by omega) hb]
    refine dB j5 ?_ q; rw [show s.h.n - 1 + 1 = s.h.n by omega]
    exact gv.hp
  obtain ⟨u, pu, _, pj⟩ := iM c (j := 0) (m := s.h.n - 1) h0 (by show s.h.n - 1 <= s.h.n; omega) hpd
  exact h.1 (u.c.dK.k (s.h.n - 1) (by rw [u.n]; exact hm))
 ·exfalso; have h0 : 0 < s.h.n := by omega
  have hm1 : (s.h.n : Int) - 1 = ((s.h.n - 1 : Nat) : Int) := by omega
  simp only [hm1, Int.toNat_natCast, yH] at h ⊢; simp only [yN, HG] at h ⊢
  try simp only [Bi, Ak, A4, AU, A9, sE, n6] at h ⊢
  have hbn := gv.c.dK.n; have hm : s.h.n - 1 < s.h.n := by omega
  have c := fi gv.c h0 hm; have hb : s.h.n - 1 < s.h.B.length := by omega
  have hpd : cz lh (bn s.h 0 (s.h.n - 1)).ob (s.h.n - 1) 0 := by
   rcases Nat.eq_zero_or_pos (s.h.n - 1) with q | q
   ·rw [q]; exact ⟨fun k k0 kn => by omega, fun q => absurd q (Nat.lt_irrefl _)⟩
   ·rw [jv (by omega) hb]
    refine dB j5 ?_ q; rw [show s.h.n - 1 + 1 = s.h.n by omega]
    exact gv.hp
  obtain ⟨u, pu, _, pj⟩ := iM c (j := 0) (m := s.h.n - 1) h0 (by show s.h.n - 1 <= s.h.n; omega) hpd
  exact h.1 (c.dK.k (s.h.n - 1) hm)
 ·exfalso; have h0 : 0 < s.h.n := by omega
  have hm1 : (s.h.n : Int) - 1 = ((s.h.n - 1 : Nat) : Int) := by omega
  simp only [hm1, Int.toNat_natCast, yH] at h ⊢; simp only [yN, HG] at h ⊢
  try simp only [Bi, Ak, A4, AU, A9, sE, n6] at h ⊢
  have hbn := gv.c.dK.n; have hm : s.h.n - 1 < s.h.n := by omega
  have c := fi gv.c h0 hm; have hb : s.h.n - 1 < s.h.B.length := by omega
  have hpd : cz lh (bn s.h 0 (s.h.n - 1)).ob (s.h.n - 1) 0 := by
   rcases Nat.eq_zero_or_pos (s.h.n - 1) with q | q
   ·rw [q]; exact ⟨fun k k0 kn => by omega, fun q => absurd q (Nat.lt_irrefl _)⟩
   ·rw [jv (by omega) hb]
    refine dB j5 ?_ q; rw [show s.h.n - 1 + 1 = s.h.n by omega]
    exact gv.hp
  obtain ⟨u, pu, _, pj⟩ := iM c (j := 0) (m := s.h.n - 1) h0 (by show s.h.n - 1 <= s.h.n; omega) hpd
  exact h.1 (c.dK.k 0 h0)
 ·rw [afC (by omega)] at hA hS; rw [hA, hS]
  have e4 := Ip gg gr gv; have e5 := Qt gg gr gv
  have e6 : (Sd (.t (s.S.map bP)) (.t s.h.I) (.t s.h.A)).length = s.S.length := by
   have := congrArg List.length e4; rwa [List.length_map] at this
  have e7 := gg.afU; have e1 : eM (List.map dg s.h.I) = s.S.map bP := et gg gr gv; have e2 : s.h.I.length = s.S.length := j8 gg gr gv; have e3 : List.take s.S.length (s.S.map bP) = s.S.map bP := eH (by rw [List.length_map]; exact Nat.le_refl _)
  simp only [e1, e2, e3, List.length_map] at h ⊢; simp only [e4, e6]
  repeat' refine And.intro ?_ ?_
  all_goals first
   | rfl
   | omega
   | assumption
   | exact List.Perm.refl _
   | exact bt gv.c.u
   | trivial
   | exact K.1
   | exact K.2.1
   | exact K.2.2
   | exact hbn2.symm
   | exact gg.i
   | exact gg.g
 ·rw [af2 (by omega)] at hA hS; rw [hA, hS]
  have e7 := zg gg.i; have e1 : eM (List.map dg s.h.I) = s.S.map bP := et gg gr gv; have e2 : s.h.I.length = s.S.length := j8 gg gr gv; have e3 : List.take s.S.length (s.S.map bP) = s.S.map bP := eH (by rw [List.length_map]; exact Nat.le_refl _)
  simp only [e1, e2, e3, List.length_map] at h ⊢; simp only [e7]
  repeat' refine And.intro ?_ ?_
  all_goals first
   | rfl
   | omega
   | assumption
   | exact List.Perm.refl _
   | exact bt gv.c.u
   | trivial
   | exact K.1
   | exact K.2.1
   | exact K.2.2
   | exact hbn2.symm
   | exact gg.i
   | exact gg.g
 ·rw [Ou (by omega) h.1] at hA hS; rw [hA, hS]
  repeat' refine And.intro ?_ ?_
  all_goals first
   | rfl
   | omega
   | assumption
   | exact List.Perm.refl _
   | exact bt gv.c.u
   | trivial
   | exact K.1
   | exact K.2.1
   | exact K.2.2
   | exact hbn2.symm
   | exact gg.i
   | exact gg.g
 ·have q := (eS gg gr gv).1 h.1; obtain ⟨i, hi, e1, e2, e3, e4, e5, e6⟩ := get_at gg gr gv q; obtain ⟨hl2, _⟩ := mK q; have ho := go _ (eb (d := .t s.S) hl2); rw [adw (by omega) h.2.1, if_pos q] at hA hS; rw [hA, hS]
  rw [<- e6] at ho ⊢; refine ⟨ho, ?_⟩
  repeat' refine And.intro ?_ ?_
  all_goals first
   | rfl
   | omega
   | assumption
   | exact List.Perm.refl _
   | exact bt gv.c.u
   | trivial
   | exact K.1
   | exact K.2.1
   | exact K.2.2
   | exact hbn2.symm
   | exact gg.i
   | exact gg.g
 ·rw [adw (by omega) h.2.1, if_neg fun q => h.1 ((eS gg gr gv).2 q)] at hA hS; rw [hA, hS]
  repeat' refine And.intro ?_ ?_
  all_goals first
   | rfl
   | omega
   | assumption
   | exact List.Perm.refl _
   | exact bt gv.c.u
   | trivial
   | exact K.1
   | exact K.2.1
   | exact K.2.2
   | exact hbn2.symm
   | exact gg.i
   | exact gg.g
 ·rw [X1] at h; have q := (eS gg gr gv).1 h.1; obtain ⟨i, hi, e1, e2, e3, e4, e5, e6⟩ := get_at gg gr gv q; obtain ⟨hl2, _⟩ := mK q; have ho := go _ (eb (d := .t s.S) hl2); rw [Tu (by omega), if_pos q] at hA hS; rw [hA, hS]
  rw [<- e6] at ho ⊢; rw [<- agO] at ho e4 ⊢; refine ⟨ho, ?_⟩
  repeat' refine And.intro ?_ ?_
  all_goals first
   | rfl
   | omega
   | assumption
   | exact List.Perm.refl _
   | exact bt gv.c.u
   | trivial
   | exact K.1
   | exact K.2.1
   | exact K.2.2
   | exact hbn2.symm
   | exact gg.i
   | exact gg.g
 ·rw [X1] at h; rw [Tu (by omega), if_neg fun q => h.1 ((eS gg gr gv).2 q)] at hA hS; rw [hA, hS]
  repeat' refine And.intro ?_ ?_
  all_goals first
   | rfl
   | omega
   | assumption
   | exact List.Perm.refl _
   | exact bt gv.c.u
   | trivial
   | exact K.1
   | exact K.2.1
   | exact K.2.2
   | exact hbn2.symm
   | exact gg.i
   | exact gg.g
 ·rw [afS (by omega)] at hA hS; rw [hA, hS]
  repeat' refine And.intro ?_ ?_
  all_goals first
   | rfl
   | omega
   | assumption
   | exact List.Perm.refl _
   | exact bt gv.c.u
   | trivial
   | exact K.1
   | exact K.2.1
   | exact K.2.2
   | exact hbn2.symm
   | exact gg.i
   | exact gg.g
 ·rw [agJ (by omega)] at hA hS; rw [hA, hS]
  repeat' refine And.intro ?_ ?_
  all_goals first
   | rfl
   | omega
   | assumption
   | exact List.Perm.refl _
   | exact bt gv.c.u
   | trivial
   | exact K.1
   | exact K.2.1
   | exact K.2.2
   | exact hbn2.symm
   | exact gg.i
   | exact gg.g
theorem Rf (hu : OU o) (hv : OV o) (hh : OH o) (hj : OJ o) {r : Nat} (hr : o.v 2207 = .i r) (hent : (HW.aU 0).ay o) (hle : (r : Int) <= ((aB (.v 7780)).den o).I) : bo o XD := by
 refine n5 (GZ hu hv hh hj hr hent hle hr) ?_; simp only [HW, Dl, cP, aB, pk, List.foldr, SS, implies_true, hj.hp, al] at hent hle; obtain ⟨hf, hlen⟩ := hent; obtain ⟨gg, go, gl, gv, gr, gn, gb, gi, ga⟩ := lE hf r (by omega)
 simp only [af, au, and_true]; intro h
 all_goals simp only [SS, implies_true, hr, hh.all, hu.mB, hu.Mb, hu.I0, hu.Ma, hu.jt, hu.m8, hu.Ij, hv.Qu, hv.MZ, hv.OR, hv.Iu, hv.P9, hj.hb, hj.hp, DX, al, cD, Classical.not_not, P1, Xh, Ot, Q5, tnn, tni] at h ⊢
 have e : r = (o.v 7780).T.length := by omega
 have e2 := @kX (o.v 7780); refine ⟨?_, ?_, ?_⟩
 all_goals first
  | (rw [<- e]; done)
  | exact eH (by rw [e2]; omega)
  | (rw [e2]; omega)
theorem Qa (hu : OU o) (hv : OV o) (hh : OH o) (hj : OJ o) {r : Nat} (hr : o.v 2207 = .i r) (hent : (HW.aU 0).ay o) (hmf : (HW.mf 0).ay o) (hle : (r : Int) <= ((aB (.v 7780)).den o).I) : bo o Wl := by
 have hmf : aa.ay o [(.o2 .aN (.v 2207) (.il 0), true)] := hmf; simp only [SS, implies_true, hr] at hmf; have hr0 : r = 0 := by omega
 refine n5 (GZ hu hv hh hj hr hent hle (by rw [hr0]; rfl)) ?_
 simp only [HW, Dl, cP, aB, pk, List.foldr, SS, implies_true, hj.hp, al] at hent hle; obtain ⟨hf, hlen⟩ := hent; obtain ⟨gg, go, gl, gv, gr, gn, gb, gi, ga⟩ := lE hf r (by omega)
 simp only [af, au, and_true]; intro h
 all_goals simp only [SS, implies_true, hr, hh.all, hu.mB, hu.Mb, hu.I0, hu.Ma, hu.jt, hu.m8, hu.Ij, hv.Qu, hv.MZ, hv.OR, hv.Iu, hv.P9, hj.hb, hj.hp, DX, al, cD, Classical.not_not, P1, Xh, Ot, Q5, tnn, tni] at h ⊢
 have e : r = (o.v 7780).T.length := by omega
 have : (kH (o.v 7780)).length = 0 := by rw [kX]; omega
 exact ⟨(List.length_eq_zero_iff.1 this).symm, by rw [<- e]⟩
end
end Go.Proofs.YtdlppkhmmclipaaGreat.sxObj
namespace Go.Proofs.YtdlppkhmmclipaaGreat.sxObj
open Go.Sx
set_option linter.unusedVariables false
set_option maxRecDepth 100000
def Q0 : List (aa × List Ob) :=
 [([], oO (.o2 .aN (.o1 .ab (.v 2202)) (.o1 .ab (.v 7740))) (oP (.v 2202) (.uf 200 (eP (.v 7740) (.il 0))) []))]
def RB : List (aa × List Ob) :=
 [(fT (.o2 .le (.il 0) (.o2 (.mf .s) (.v 7740) (.v 7749))) [], oO (.o2 .le (.o1 .ab (.v 2202)) (.il 2147483648)) [])]
abbrev oq0 : E := .o2 (.mf .s) (.v 7751) (eC 0 (.v 7750) (.v 2203))
abbrev oq1 : E := .o2 .lt (.v 2203) (.o1 .ab (.v 7750))
abbrev oq2 : E := eC 1 (.v 7751) oq0
abbrev oq3 : E := .uf 300 (eP (.v 7750) (eP (.v 7751) (eP (.v 7752) (.il 0))))
def hlL : List (aa × List Ob) :=
 [(fT (.o2 .le (.il 0) oq0) (fT oq1 []), oO (.o2 .le (.il 0) oq2) (oO (.o2 .le (.il 0) oq2) (oO (.o2 .le (.il 0) oq2) (oT (eC 0 (.v 7752) oq2) (eC 0 oq3 (.v 2203)) [])))),
  (fF (.o2 .le (.il 0) oq0) (fT oq1 []), oO (.bl false) []),
  (fF oq1 [], oO (.o2 .le (.v 2203) (.o1 .ab oq3)) (oT (.o2 .cJ oq3 (.v 2203)) oq3 []))]
abbrev oq4 : E := .o2 .lt (.v 2204) (.o1 .ab (.v 7757))
def hkL : List (aa × List Ob) :=
 [(fT oq4 [], []),
  (fF oq4 [], oT (.o2 .cJ (.v 7757) (.v 2204)) (.v 7757) [])]
def hwL : List (aa × List Ob) :=
 [(fT (.v 7761) (fT (.o2 .aN (.v 7760) (.il 0)) []), []),
  (fF (.o2 .aN (.v 7760) (.il 0)) [], [])]
end Go.Proofs.YtdlppkhmmclipaaGreat.sxObj
namespace Go.Proofs.YtdlppkhmmclipaaGreat.sxObj
open Go.Sx Go.RowKit Go.Proofs.YtdlppkhmmclipaaGreat
set_option linter.unusedVariables false
set_option linter.unusedSimpArgs false
set_option maxRecDepth 100000
section
variable {o : Env}
theorem LQ (f : FuncId) : eg Tryz.prog o f KR := by
 intro w0 args nx p h r h' nx' hp hr; have e : Prog.fail "never" = p := Option.some.inj hp; rw [<- e] at hr; exact absurd hr id
theorem Vs : O3.iJ Tryz.prog = some WE := by kernel_rfl
theorem Qz (hu : OU o) : eg Tryz.prog o Ow O3.aS :=
 ct plain mixed (D := O3) Vs (fun e A he => br (c := ⟨[(tM, qC.aS)], []⟩) (by kernel_rfl) ⟨zR (hu.az he), trivial⟩ trivial A) (fun e he h => QG)
theorem u5 (hu : OU o) (A : Anchor) : ew Tryz.prog o A (ID.x.cN Tryz.prog) := br (c := ID) (by kernel_rfl) ⟨Qz hu, trivial⟩ trivial A
theorem Xl : gE Tryz.prog Mo (.o2 .sub (.v 7202) (.v 7201)) Xb := ⟨by kernel_rfl, by kernel_rfl, rfl, by kernel_rfl, rfl, fun m h => bk h, fun m h => bk h, fun _ => rfl⟩
theorem RC (hu : OU o) : dz Tryz.prog o jd 1 Mo.cW :=
 Xl.ok plain mixed (fun e he h => by
  obtain ⟨_, hent⟩ := fH (hu.az he) h; simp only [cP, aB, SS, implies_true] at hent ⊢
  omega) (fun e A he => u5 (hu.az he) A) (fun e i he h hr hl => QE (hu.az he) hr h hl)
theorem Xn : FM.iJ Tryz.prog = some S5 := by kernel_rfl
theorem GN (hu : OU o) : eg Tryz.prog o jd FM.aS :=
 ct plain mixed (D := FM) Xn (fun e A he => br (c := ⟨[], [(jd, 1, Mo.cW)]⟩) (by kernel_rfl) trivial ⟨RC (hu.az he), trivial⟩ A) (fun e he h => by simp only [S5, af, au, and_true]; intro _; simp only [se])
theorem Yh : gE Tryz.prog Qn (.o2 .sub (.v 7213) (.v 7212)) Vo := ⟨by kernel_rfl, by kernel_rfl, rfl, by kernel_rfl, rfl, fun m h => bk h, fun m h => bk h, fun _ => rfl⟩
theorem QJ (hu : OU o) : dz Tryz.prog o cH 3 Qn.cW :=
 Yh.ok plain mixed (fun e he h => by
  obtain ⟨_, hent⟩ := fH (hu.az he) h; simp only [cP, sM, aB, SS, implies_true] at hent ⊢
  omega) (fun e A he => u5 (hu.az he) A) (fun e i he h hr hl => OI (hu.az he) hr h hl)
theorem Yw : gE Tryz.prog Qe (.o2 .sub (.v 7217) (.v 7216)) V1 := ⟨by kernel_rfl, by kernel_rfl, rfl, by kernel_rfl, rfl, fun m h => bk h, fun m h => bk h, fun _ => rfl⟩
theorem OE (hu : OU o) : dz Tryz.prog o cH 15 Qe.cW :=
 Yw.ok plain mixed (fun e he h => by
  obtain ⟨_, hent⟩ := fH (hu.az he) h; simp only [cP, sM, aB, SS, implies_true] at hent ⊢
  omega) (fun e A he => u5 (hu.az he) A) (fun e i he h hr hl => Rr (hu.az he) hr h hl)
theorem U8 : gE Tryz.prog OP (.o2 .sub (.v 7222) (.v 7221)) V2 := ⟨by kernel_rfl, by kernel_rfl, rfl, by kernel_rfl, rfl, fun m h => bk h, fun m h => bk h, fun _ => rfl⟩
theorem Rw (hu : OU o) : dz Tryz.prog o cH 33 OP.cW :=
 U8.ok plain mixed (fun e he h => by
  obtain ⟨_, hent⟩ := fH (hu.az he) h; simp only [cP, sM, aB, SS, implies_true] at hent ⊢
  omega) (fun e A he => u5 (hu.az he) A) (fun e i he h hr hl => PN (hu.az he) hr h hl)
theorem Ul : Z3.iJ Tryz.prog = some XF := by kernel_rfl
theorem GF (hu : OU o) : eg Tryz.prog o cH CZ.aS :=
 cA.Wb plain mixed (D := CZ) (G := 7229) (sz := Db) (X := Ua.x.vP) Ul rfl (by kernel_rfl) (fun _ => rfl)
  (fun e A he hf => pz (c := Ua) (by kernel_rfl) ⟨LQ G4, hf, trivial⟩ ⟨QJ (hu.az he.uf), OE (hu.az he.uf), Rw (hu.az he.uf), trivial⟩ A)
  (fun e he h => Og (hu.az he.uf) h) (fun e he h => by
   obtain ⟨_, hent⟩ := fH (hu.az he.uf) h; simp only [Db, cP, sM, aB, SS, implies_true] at hent ⊢
   omega)
theorem YM : gE Tryz.prog Nn (.o2 .quo (.v 7231) (.il 20)) XC := ⟨by kernel_rfl, by kernel_rfl, rfl, by kernel_rfl, rfl, fun m h => bk h, fun m h => bk h, fun _ => rfl⟩
theorem RE (hu : OU o) : dz Tryz.prog o e8 2 Nn.cW :=
 YM.ok plain mixed (fun e he h => by
  obtain ⟨_, hent⟩ := fH (hu.az he) h; simp only [cP, sM, aB, lA, SS, implies_true] at hent ⊢
  exact Int.tdiv_nonneg (by omega) (by omega)) (fun e A he => br (c := ⟨[(jd, FM.aS)], []⟩) (by kernel_rfl) ⟨GN (hu.az he), trivial⟩ trivial A) (fun e i he h hr hl => P7 (hu.az he) hr h hl)
theorem W3 : gE Tryz.prog NJ E8 V6 := ⟨by kernel_rfl, by kernel_rfl, rfl, by kernel_rfl, rfl, fun m h => bk h, fun m h => bk h, fun _ => rfl⟩
theorem Pw (hu : OU o) : dz Tryz.prog o e8 9 NJ.cW :=
 W3.ok plain mixed (fun e he h => by
  have hent : (uR (.v 7234) ++ [(.o2 .aN (.v 7235) (aB (.v 7234)), true), cP (.il 20) (.v 7236), sM (.v 7236) (.v 7235)]).ay e := h; obtain ⟨_, hent⟩ := fH (hu.az he) hent; simp only [cP, sM, aB, E8, lA, SS, implies_true] at hent ⊢
  exact Int.tdiv_nonneg (by omega) (by omega)) (fun e A he => br (c := ⟨[(cH, CZ.aS)], []⟩) (by kernel_rfl) ⟨GF (hu.az he), trivial⟩ trivial A) (fun e i he h hr hl => Pf (hu.az he) hr h hl)
theorem Wu : gE Tryz.prog Ny (.v 7241) V9 := ⟨by kernel_rfl, by kernel_rfl, rfl, by kernel_rfl, rfl, fun m h => bk h, fun m h => bk h, fun _ => rfl⟩
theorem PE (hu : OU o) : dz Tryz.prog o e8 7 Ny.cW :=
 Wu.ok plain mixed (fun e he h => by
  obtain ⟨_, hent⟩ := fH (hu.az he) h; simp only [cP, sM, aB, lA, SS, implies_true] at hent ⊢
  omega) (fun e A he => br (c := ⟨[(cH, CZ.aS)], [(e8, 9, NJ.cW)]⟩) (by kernel_rfl) ⟨GF (hu.az he), trivial⟩ ⟨Pw (hu.az he), trivial⟩ A) (fun e i he h hr hl => OK (hu.az he) hr h hl)
theorem Iq : pH.iJ Tryz.prog = some Bw := by kernel_rfl
theorem Gj (hu : OU o) : eg Tryz.prog o vw pH.aS :=
 ct plain mixed (D := pH) Iq (fun e A he => br (c := ⟨[(jd, FM.aS)], [(e8, 2, Nn.cW), (e8, 7, Ny.cW)]⟩) (by kernel_rfl) ⟨GN (hu.az he), trivial⟩ ⟨RE (hu.az he), PE (hu.az he), trivial⟩ A) (fun e he h => F4 (hu.az he) h)
theorem EA : E1 Tryz.prog jB (aB (.v 7250)) sZ tS := ⟨by kernel_rfl, by kernel_rfl, by kernel_rfl, rfl, rfl, by kernel_rfl, rfl, fun m h => bk h, fun m h => xd h, fun _ => rfl⟩
theorem Ce (hu : OU o) : dz Tryz.prog o kZ 3 jB.cW :=
 EA.ok plain mixed (fun o _ _ => hU o) (fun e A he => br (c := ⟨[(gZ, iY.aS)], []⟩) (by kernel_rfl) ⟨qO (hu.az he), trivial⟩ trivial A) (fun e he h hr _ => BA (hu.az he) hr h) (fun e i he h hr _ hl => BD (hu.az he) hr h hl)
theorem Fc : my.iJ Tryz.prog = some tA := by kernel_rfl
theorem DM (hu : OU o) : eg Tryz.prog o kZ my.aS :=
 ct plain mixed (D := my) Fc (fun e A he => br (c := ⟨[(vw, pH.aS)], [(kZ, 3, jB.cW)]⟩) (by kernel_rfl) ⟨Gj (hu.az he), trivial⟩ ⟨Ce (hu.az he), trivial⟩ A) (fun e he h => AK (hu.az he) h)
end
section
variable {o : Env}
theorem ZQ : gE Tryz.prog YR (UK (.v 7300) (.v 7301) (.v 7302)) ixL := ⟨by kernel_rfl, by kernel_rfl, rfl, by kernel_rfl, rfl, fun m h => bk h, fun m h => bk h, fun _ => rfl⟩
theorem VZ (hu : OU o) : dz Tryz.prog o Az 2 YR.cW :=
 ZQ.ok plain mixed (fun e he h => by
  simp only [UK, pk, List.foldr, SS, implies_true, (hu.az he).Q6]
  omega) (fun _ _ _ => cu) (fun e i he h hr hl => WA (hu.az he) hr h hl)
theorem adM : coF.iJ Tryz.prog = some coL := by kernel_rfl
theorem Wc (hu : OU o) : eg Tryz.prog o pv coF.aS :=
 ct plain mixed (D := coF) adM (fun e A he => br (c := ⟨[], [(Az, 2, YR.cW)]⟩) (by kernel_rfl) trivial ⟨VZ (hu.az he), trivial⟩ A) (fun e he h => Ya (hu.az he))
theorem aeu : gE Tryz.prog slY (aB (.v 7307)) UP := ⟨by kernel_rfl, by kernel_rfl, rfl, by kernel_rfl, rfl, fun m h => bk h, fun m h => bk h, fun _ => rfl⟩
theorem Wj (hu : OU o) : dz Tryz.prog o eL 4 slY.cW :=
 aeu.ok plain mixed (fun o _ _ => hU o) (fun e A he => br (c := ⟨[(pv, coF.aS)], []⟩) (by kernel_rfl) ⟨Wc (hu.az he), trivial⟩ trivial A) (fun e i he h hr hl => Oq (hu.az he) hr)
theorem abK : slF.iJ Tryz.prog = some slL := by kernel_rfl
theorem Ui (hu : OU o) : eg Tryz.prog o eL slF.aS :=
 ct plain mixed (D := slF) abK (fun e A he => br (c := ⟨[], [(eL, 4, slY.cW)]⟩) (by kernel_rfl) trivial ⟨Wj (hu.az he), trivial⟩ A) (fun e he h => (sC (hu.az he)).2.2.1)
theorem abe : soF.iJ Tryz.prog = some soL := by kernel_rfl
theorem TU (hu : OU o) : eg Tryz.prog o sF soF.aS :=
 ct plain mixed (D := soF) abe (fun e A he => br (c := ⟨[(eL, slF.aS)], []⟩) (by kernel_rfl) ⟨Ui (hu.az he), trivial⟩ trivial A) (fun e he h => (sC (hu.az he)).2.2.2.1)
theorem Yn : gE Tryz.prog Ih (aB (GB 2)) W9 := ⟨by kernel_rfl, by kernel_rfl, rfl, by kernel_rfl, rfl, fun m h => bk h, fun m h => bk h, fun _ => rfl⟩
theorem P3 (hu : OU o) : dz Tryz.prog o iF 4 Ih.cW :=
 Yn.ok plain mixed (fun o _ _ => hU o) (fun e A he => br (c := ⟨[(sF, soF.aS)], []⟩) (by kernel_rfl) ⟨TU (hu.az he), trivial⟩ trivial A) (fun e i he h hr hl => Ov (hu.az he) hr h)
theorem Vm : gE Tryz.prog PS (aB (GB 3)) WQ := ⟨by kernel_rfl, by kernel_rfl, rfl, by kernel_rfl, rfl, fun m h => bk h, fun m h => bk h, fun _ => rfl⟩
theorem QU (hu : OU o) : dz Tryz.prog o iF 9 PS.cW :=
 Vm.ok plain mixed (fun o _ _ => hU o) (fun _ _ _ => cu) (fun e i he h hr hl => (sC (hu.az he)).1)
theorem aex : ZU.iJ Tryz.prog = some ssL := by kernel_rfl
theorem UJ (hu : OU o) : eg Tryz.prog o iF ZU.aS :=
 ct plain mixed (D := ZU) aex (fun e A he => br (c := ⟨[], [(iF, 4, Ih.cW), (iF, 9, PS.cW)]⟩) (by kernel_rfl) trivial ⟨P3 (hu.az he), QU (hu.az he), trivial⟩ A) (fun e he h => (sC (hu.az he)).2.1)
theorem adu : gE Tryz.prog YX (aB (.v 7340)) We := ⟨by kernel_rfl, by kernel_rfl, rfl, by kernel_rfl, rfl, fun m h => bk h, fun m h => bk h, fun _ => rfl⟩
theorem Ue (hu : OU o) : dz Tryz.prog o qV 4 YX.cW :=
 adu.ok plain mixed (fun o _ _ => hU o) (fun e A he => br (c := ⟨[(iF, ZU.aS)], []⟩) (by kernel_rfl) ⟨UJ (hu.az he), trivial⟩ trivial A) (fun e i he h hr hl => Wd (hu.az he) hr h)
theorem adj : saF.iJ Tryz.prog = some saL := by kernel_rfl
theorem V7 (hu : OU o) : eg Tryz.prog o qV saF.aS :=
 ct plain mixed (D := saF) adj (fun e A he => br (c := ⟨[], [(qV, 4, YX.cW)]⟩) (by kernel_rfl) trivial ⟨Ue (hu.az he), trivial⟩ A) (fun e he h => (sC (hu.az he)).2.2.2.2)
theorem aaT : gE Tryz.prog z6Y (.uf 134 (pk [.v 7400])) WS := ⟨by kernel_rfl, by kernel_rfl, rfl, by kernel_rfl, rfl, fun m h => bk h, fun m h => bk h, fun _ => rfl⟩
theorem T8 (hu : OU o) : dz Tryz.prog o Dr 4 z6Y.cW :=
 aaT.ok plain mixed (fun e he h => by simp only [pk, List.foldr, SS, implies_true, (hu.az he).Ug]; omega) (fun _ _ _ => cu) (fun e i he h hr hl => QL (hu.az he) hr hl)
theorem ab1 : z6F.iJ Tryz.prog = some z6L := by kernel_rfl
theorem Yo (hu : OU o) : eg Tryz.prog o Dr z6F.aS :=
 ct plain mixed (D := z6F) ab1 (fun e A he => br (c := ⟨[], [(Dr, 4, z6Y.cW)]⟩) (by kernel_rfl) trivial ⟨T8 (hu.az he), trivial⟩ A) (fun e he h => Up (hu.az he))
theorem ad8 : WI.iJ Tryz.prog = some z5L := by kernel_rfl
theorem Lz (hu : OU o) : eg Tryz.prog o Je WI.aS :=
 ct plain mixed (D := WI) ad8 (fun e A he => br (c := ⟨[(Dr, z6F.aS)], []⟩) (by kernel_rfl) ⟨Yo (hu.az he), trivial⟩ trivial A) (fun e he h => XS (hu.az he))
theorem XK : gE Tryz.prog Oh (.uf 138 (pk [.v 7420])) NK := ⟨by kernel_rfl, by kernel_rfl, rfl, by kernel_rfl, rfl, fun m h => bk h, fun m h => bk h, fun _ => rfl⟩
theorem QV (hu : OU o) : dz Tryz.prog o ud 4 Oh.cW :=
 XK.ok plain mixed (fun e he h => by simp only [pk, List.foldr, SS, implies_true, (hu.az he).Ud]; omega) (fun e A he => br (c := ⟨[(Je, WI.aS)], []⟩) (by kernel_rfl) ⟨Lz (hu.az he), trivial⟩ trivial A) (fun e i he h hr hl => K8 (hu.az he) hr hl)
theorem U1 : M9.iJ Tryz.prog = some Uu := by kernel_rfl
theorem Qm (hu : OU o) : eg Tryz.prog o ud M9.aS :=
 ct plain mixed (D := M9) U1 (fun e A he => br (c := ⟨[], [(ud, 4, Oh.cW)]⟩) (by kernel_rfl) trivial ⟨QV (hu.az he), trivial⟩ A) (fun e he h => Qd (hu.az he))
theorem VP : gE Tryz.prog PZ (.uf 144 (pk [.v 7430, .v 7431])) Ye := ⟨by kernel_rfl, by kernel_rfl, rfl, by kernel_rfl, rfl, fun m h => bk h, fun m h => bk h, fun _ => rfl⟩
theorem RI (hu : OU o) : dz Tryz.prog o jP 7 PZ.cW :=
 VP.ok plain mixed (fun e he h => by simp only [pk, List.foldr, SS, implies_true, (hu.az he).XY]; omega) (fun _ _ _ => cu) (fun e i he h hr hl => OW (hu.az he) hr hl)
theorem VC : gE Tryz.prog JC (.uf 146 (pk [.v 7433])) Km := ⟨by kernel_rfl, by kernel_rfl, rfl, by kernel_rfl, rfl, fun m h => bk h, fun m h => bk h, fun _ => rfl⟩
theorem Qj (hu : OU o) : dz Tryz.prog o jP 2 JC.cW :=
 VC.ok plain mixed (fun e he h => by simp only [pk, List.foldr, SS, implies_true, (hu.az he).Wo]; omega) (fun e A he => br (c := ⟨[], [(jP, 7, PZ.cW)]⟩) (by kernel_rfl) trivial ⟨RI (hu.az he), trivial⟩ A) (fun e i he h hr hl => Mq (hu.az he) hr h hl)
theorem VH : K3.iJ Tryz.prog = some X3 := by kernel_rfl
theorem OT (hu : OU o) : eg Tryz.prog o jP K3.aS :=
 ct plain mixed (D := K3) VH (fun e A he => br (c := ⟨[], [(jP, 2, JC.cW)]⟩) (by kernel_rfl) trivial ⟨Qj (hu.az he), trivial⟩ A) (fun e he h => Rs (hu.az he))
theorem aat : gE Tryz.prog shY (.uf 149 (pk [.v 7436])) shL := ⟨by kernel_rfl, by kernel_rfl, rfl, by kernel_rfl, rfl, fun m h => bk h, fun m h => bk h, fun _ => rfl⟩
theorem YB (hu : OU o) : dz Tryz.prog o l5 5 shY.cW :=
 aat.ok plain mixed (fun e he h => by simp only [pk, List.foldr, SS, implies_true, (hu.az he).WU]; omega) (fun _ _ _ => cu) (fun e i he h hr hl => XL (hu.az he) hr hl)
theorem acv : QH.iJ Tryz.prog = some smL := by kernel_rfl
theorem M5 (hu : OU o) : eg Tryz.prog o l5 QH.aS :=
 ct plain mixed (D := QH) acv (fun e A he => br (c := ⟨[(jP, K3.aS)], [(l5, 5, shY.cW)]⟩) (by kernel_rfl) ⟨OT (hu.az he), trivial⟩ ⟨YB (hu.az he), trivial⟩ A) (fun e he h => X9 (hu.az he) h)
theorem VX : gE Tryz.prog Ie (.uf 152 (pk [.v 7450])) Lj := ⟨by kernel_rfl, by kernel_rfl, rfl, by kernel_rfl, rfl, fun m h => bk h, fun m h => bk h, fun _ => rfl⟩
theorem P8 (hu : OU o) : dz Tryz.prog o ly 2 Ie.cW :=
 VX.ok plain mixed (fun e he h => by simp only [pk, List.foldr, SS, implies_true, (hu.az he).V8]; omega) (fun e A he => br (c := ⟨[(l5, QH.aS)], []⟩) (by kernel_rfl) ⟨M5 (hu.az he), trivial⟩ trivial A) (fun e i he h hr hl => M8 (hu.az he) hr h hl)
theorem X7 : LD.iJ Tryz.prog = some Xf := by kernel_rfl
theorem OB (hu : OU o) : eg Tryz.prog o ly LD.aS :=
 ct plain mixed (D := LD) X7 (fun e A he => br (c := ⟨[], [(ly, 2, Ie.cW)]⟩) (by kernel_rfl) trivial ⟨P8 (hu.az he), trivial⟩ A) (fun e he h => PB (hu.az he))
end
section
variable {o : Env}
end
section
variable {o : Env}
end
section
variable {o : Env}
end
section
variable {o : Env}
theorem Oz : xD.iJ Tryz.prog = some MU := by kernel_rfl
theorem C8 (hu : OU o) (hh : OH o) : eg Tryz.prog o ui xD.aS :=
 ct plain mixed (D := xD) Oz (fun e A he => br (c := ⟨[(gZ, iY.aS), (tM, qC.aS)], []⟩) (by kernel_rfl) ⟨qO (hu.az he), zR (hu.az he), trivial⟩ trivial A) (fun e he h => LJ (hu.az he) (hh.az he))
theorem Za : gE Tryz.prog YP (.uf 284 (pk Ql)) upL := ⟨by kernel_rfl, by kernel_rfl, rfl, by kernel_rfl, rfl, fun m h => bk h, fun m h => bk h, fun _ => rfl⟩
theorem LG (hu : OU o) (hh : OH o) : dz Tryz.prog o fUp 0 YP.cW :=
 Za.ok plain mixed (fun e he h => by simp only [Ql, pk, List.foldr, SS, implies_true, (hh.az he).all]; omega) (fun e A he => pz (c := ⟨[(ui, xD.aS)], []⟩) (by kernel_rfl) ⟨C8 (hu.az he) (hh.az he), trivial⟩ trivial A) (fun e i he h hr hl => VD (hu.az he) (hh.az he) hr h hl)
theorem aea : gE Tryz.prog YU (.uf 294 (pk NQ)) dnL := ⟨by kernel_rfl, by kernel_rfl, rfl, by kernel_rfl, rfl, fun m h => bk h, fun m h => bk h, fun _ => rfl⟩
theorem KU (hu : OU o) (hh : OH o) : dz Tryz.prog o GY 2 YU.cW :=
 aea.ok plain mixed (fun e he h => by simp only [NQ, pk, List.foldr, SS, implies_true, (hh.az he).all]; omega) (fun e A he => pz (c := ⟨[(ui, xD.aS)], []⟩) (by kernel_rfl) ⟨C8 (hu.az he) (hh.az he), trivial⟩ trivial A) (fun e i he h hr hl => UG (hu.az he) (hh.az he) hr h hl)
end
section
variable {o : Env}
theorem acz : ak.Lk Tryz.prog JG FK 0 false = some Q0 := by kernel_rfl
theorem aen : ak.Lk Tryz.prog JG FK 0 true = some RB := by kernel_rfl
theorem YC (hv : OV o) : dz Tryz.prog o Ge 3 JG.cW := by
 refine ak.WO plain mixed (D := JG) (R := FK) (by kernel_rfl) (fun e' he μ0 h0 hent => ?_) (fun _ => rfl)
 obtain rfl := bk h0; have hv' := hv.az he.uf; have hent : aa.ay e' [mb (.v 7740), (.uf 201 (pk [.v 7740]), true)] := hent; simp only [mb, aB, pk, List.foldr, SS, implies_true, hv'.MZ, al] at hent; obtain ⟨hmx, hap⟩ := hent; refine ⟨⟨fun _ vs μ => μ = 0 /\ vs.Pairwise (fun a b => KK.str.dv a ≠ KK.str.dv b) /\ ∀ k ∈ vs, ∃ r ∈ (e'.v 7740).T, r.headD (.i 0) = k, fun _ b => cond b RB Q0, fun _ _ _ _ => cu, fun u vs μ hm b => ?_, fun u vs μ e hm he0 hO x hx hfx => ?_, fun u vs μ e k hm he0 hC x hx hfx => ?_, fun u vs μ y hm => ?_, fun u vs μ μ' e k hm he0 hC ht _ => ⟨0, ⟨rfl, ?_, ?_⟩, ?_⟩, fun u _ => ⟨0, ⟨rfl, List.Pairwise.nil, fun _ q => by cases q⟩, gx.refl _⟩⟩⟩
 ·rw [hm.1]; cases b
  ·exact acz
  ·exact aen
 ·obtain ⟨h1, h2, h3⟩ := hm; rw [h1] at he0; injection he0 with he0; subst he0; have hp := keys_perm hap h2 h3 hO; refine iA (env := JG.dh FK e' u (ak.dt vs) (e'.v FK.kv)) ?_ x hx hfx; have hv2 : OV (JG.dh FK e' u (ak.dt vs) (e'.v FK.kv)) := hv'; show bo _ Q0; simp only [Q0, af, au, and_true]; intro h; simp only [SS, implies_true, hv2.Qu]; have e1 : (JG.dh FK e' u (ak.dt vs) (e'.v FK.kv)).v 2202 = ak.dt vs := rfl; have e2 : (JG.dh FK e' u (ak.dt vs) (e'.v FK.kv)).v 7740 = e'.v 7740 := rfl; rw [e1, e2, ak.BV]; have := hp.length_eq; refine ⟨?_, hp⟩; simp only [List.length_map] at this ⊢; omega
 ·obtain ⟨h1, h2, h3⟩ := hm; rw [h1] at he0; injection he0 with he0; subst he0; refine iA (env := JG.dh FK e' u (ak.dt vs) k) ?_ x hx hfx; show bo _ RB; simp only [RB, af, au, and_true]; intro h; simp only [SS, implies_true]; have e1 : (JG.dh FK e' u (ak.dt vs) k).v 2202 = ak.dt vs := rfl; rw [e1, ak.BV, List.length_map]; have := MK h2 h3; omega
 ·rw [hm.1]; have hv2 : OV (JG.dh FK e' u (ak.dt vs) y) := hv'; show aa.ay _ [mb (.v 7740), (.uf 201 (pk [.v 7740]), true)]; have e2 : (JG.dh FK e' u (ak.dt vs) y).v 7740 = e'.v 7740 := rfl; simp only [mb, aB, pk, List.foldr, SS, implies_true, hv2.MZ, al, e2]; exact ⟨hmx, hap⟩
 ·refine List.pairwise_append.2 ⟨hm.2.1, List.pairwise_singleton _ _, fun a ha b hb => ?_⟩; rw [List.mem_singleton.1 hb]; exact hC.2 a ha
 ·intro k' hk'; rcases List.mem_append.1 hk' with h | h
  ·exact hm.2.2 k' h
  ·rw [List.mem_singleton.1 h]; have he := hm.1; subst he; injection he0 with he0; subst he0; exact hC.1
 ·have := hm.1; rw [bk ht]; exact gx.refl _
theorem UN (hh : OH o) (hj : OJ o) {r : Nat} (hr : o.v 2203 = .i r) (hent : (hlY.aU 0).ay o) (hle : (r : Int) <= ((aB (.v 7750)).den o).I) : bo o hlL := by
 simp only [hlY, hlF, mb, aB, pk, List.foldr, SS, implies_true, hj.hb, al] at hent hle; obtain ⟨hmx, hin⟩ := hent; simp only [hlL, af, au, and_true]
 and_intros
 all_goals intro h
 all_goals simp only [SS, implies_true, hr, hj.hb] at h ⊢
 ·have q := (hin _ (eb (d := o.v 7750) (n := r) (by omega))).2
  refine ⟨q, q, q, ?_⟩; unfold Sd; rw [MY (by omega)]
  rfl
 ·exact absurd (hin _ (eb (d := o.v 7750) (n := r) (by omega))).1 h.1
 ·have : (Sd (o.v 7750) (o.v 7751) (o.v 7752)).length = (o.v 7750).T.length := by unfold Sd; rw [List.length_map]
  exact ⟨by omega, eH (by omega)⟩
theorem T0 {r : Nat} (hr : o.v 2204 = .i r) : bo o hkL := by
 simp only [hkL, af, au, and_true]
 and_intros
 all_goals intro h
 all_goals simp only [SS, implies_true, hr] at h ⊢
 exact eH (by omega)
theorem UL (hent : (hwY.aU 0).ay o) : bo o hwL := by
 simp only [hwY, hwF, cP, SS, implies_true] at hent; simp only [hwL, af, au, and_true]
 and_intros
 all_goals intro h
 all_goals simp only [SS, implies_true] at h ⊢
 all_goals first | omega | trivial | exact hent.1
theorem adW : gE Tryz.prog hlY (aB (.v 7750)) hlL := ⟨by kernel_rfl, by kernel_rfl, rfl, by kernel_rfl, rfl, fun m h => bk h, fun m h => bk h, fun _ => rfl⟩
theorem WR (hh : OH o) (hj : OJ o) : dz Tryz.prog o Ao 5 hlY.cW :=
 adW.ok plain mixed (fun o _ _ => hU o) (fun _ _ _ => cu) (fun e i he h hr hl => UN (hh.az he) (hj.az he) hr h hl)
theorem abh : gE Tryz.prog hkY (aB (.v 7757)) hkL := ⟨by kernel_rfl, by kernel_rfl, rfl, by kernel_rfl, rfl, fun m h => bk h, fun m h => bk h, fun _ => rfl⟩
theorem YK : dz Tryz.prog o Bz 5 hkY.cW :=
 abh.ok plain mixed (fun o _ _ => hU o) (fun _ _ _ => cu) (fun e i he h hr hl => T0 hr)
theorem ZO : gE Tryz.prog hwY (.il 0) hwL := ⟨by kernel_rfl, by kernel_rfl, rfl, by kernel_rfl, rfl, fun m h => bk h, fun m h => bk h, fun _ => rfl⟩
theorem Xe : dz Tryz.prog o EC 3 hwY.cW :=
 ZO.ok plain mixed (fun e he h => Int.le_refl _) (fun _ _ _ => cu) (fun e i he h hr hl => UL h)
theorem abm : gE Tryz.prog hbY (.uf 212 (pk [.v 7770])) hbL := ⟨by kernel_rfl, by kernel_rfl, rfl, by kernel_rfl, rfl, fun m h => bk h, fun m h => bk h, fun _ => rfl⟩
theorem Yj (hu : OU o) (hv : OV o) (hh : OH o) (hj : OJ o) : dz Tryz.prog o Ba 6 hbY.cW :=
 abm.ok plain mixed (fun e he h => by simp only [pk, List.foldr, SS, implies_true, (hv.az he).Iu]; omega)
  (fun e A he => pz (c := hbX) (by kernel_rfl) ⟨xN (hu.az he), trivial⟩ ⟨LG (hu.az he) (hh.az he), KU (hu.az he) (hh.az he), trivial⟩ A)
  (fun e i he h hr hl => XR (hu.az he) (hv.az he) (hh.az he) (hj.az he) hr h hl)
end
end Go.Proofs.YtdlppkhmmclipaaGreat.sxObj
namespace Go.Proofs.YtdlppkhmmclipaaGreat.sxObj
open Go.Sx
set_option linter.unusedVariables false
set_option maxRecDepth 100000
abbrev ow0 : E := .v 7580
abbrev YT : E := eC 0 ow0 (.v 2160)
abbrev ow2 : E := .il 0
end Go.Proofs.YtdlppkhmmclipaaGreat.sxObj
namespace Go.Proofs.YtdlppkhmmclipaaGreat.sxObj
open Go.Sx Go.RowKit Go.Proofs.YtdlppkhmmclipaaGreat
set_option linter.unusedVariables false
set_option linter.unusedSimpArgs false
set_option maxRecDepth 100000
section
variable {o : Env}
end
end Go.Proofs.YtdlppkhmmclipaaGreat.sxObj
namespace Go.Proofs.YtdlppkhmmclipaaGreat.sxObj
open Go.Sx
set_option linter.unusedVariables false
set_option maxRecDepth 100000
end Go.Proofs.YtdlppkhmmclipaaGreat.sxObj
namespace Go.Proofs.YtdlppkhmmclipaaGreat.sxObj
open Go.Sx Go.RowKit Go.Proofs.YtdlppkhmmclipaaGreat
set_option linter.unusedVariables false
set_option linter.unusedSimpArgs false
set_option maxRecDepth 100000
section
variable {o : Env}
end
section
variable {o : Env}
end
section
variable {o : Env}
def hmL (m : Nat) : List (aa × List Ob) := match m with | 0 => Wl | _ => XD
theorem hmM {m : Nat} (h : (HW.mS m || HW.ll m) = true) : m = 0 \/ m = 1 := by
 rcases Bool.or_eq_true_iff.1 h with h | h
 ·exact .inl (bk h)
 ·exact .inr (xd h)
theorem abF : HW.iJ Tryz.prog 0 = some Wl := by kernel_rfl
theorem aad : HW.iJ Tryz.prog 1 = some XD := by kernel_rfl
theorem ac8 : N7 Tryz.prog HW (aB (.v 7780)) hmL := ⟨fun m h => by
    rcases hmM h with rfl | rfl
    ·exact abF
    ·exact aad, by kernel_rfl, fun m => by rcases m with _ | _ <;> rfl, fun _ => rfl, by kernel_rfl, rfl, fun _ => rfl⟩
theorem Yu (hu : OU o) (hv : OV o) (hh : OH o) (hj : OJ o) (A : Anchor) : ew Tryz.prog o A (hmX.x.vP.cN Tryz.prog) :=
 pz (c := hmX) (by kernel_rfl) ⟨tf hu, Gi hu, xN hu, qO hu, DM hu, MO hu, C6 hu, trivial⟩ ⟨YC hv, WR hh hj, YK, Xe, Yj hu hv hh hj, LG hu hh, KU hu hh, trivial⟩ A
theorem WT (hu : OU o) (hv : OV o) (hh : OH o) (hj : OJ o) : dz Tryz.prog o Bv 4 HW.cW :=
 ac8.ok plain mixed (fun o _ _ => hU o) (fun e A he => Yu (hu.az he) (hv.az he) (hh.az he) (hj.az he) A)
  (fun e i m he h hm hk hr hl => by
   rcases hmM hk with rfl | rfl
   ·exact Qa (hu.az he) (hv.az he) (hh.az he) (hj.az he) hr h hm hl
   ·exact Rf (hu.az he) (hv.az he) (hh.az he) (hj.az he) hr h hl)
end
section
variable {o : Env}
theorem aar : gE Tryz.prog leY (aB (.v 7790)) leL := ⟨by kernel_rfl, by kernel_rfl, rfl, by kernel_rfl, rfl, fun m h => bk h, fun m h => bk h, fun _ => rfl⟩
theorem US (hj : OJ o) : dz Tryz.prog o EM 3 leY.cW :=
 aar.ok plain mixed (fun o _ _ => hU o) (fun _ _ _ => cu) (fun e i he h hr hl => Yf (hj.az he) hr hl)
theorem ade : gE Tryz.prog hdY (.uf 167 (pk [.v 7792])) hdL := ⟨by kernel_rfl, by kernel_rfl, rfl, by kernel_rfl, rfl, fun m h => bk h, fun m h => bk h, fun n => by rcases n with _ | _ | _ <;> rfl⟩
theorem Wk (hu : OU o) (hj : OJ o) : dz Tryz.prog o MD 24 hdY.cW :=
 ade.ok plain mixed (fun e he h => by simp only [pk, List.foldr, SS, implies_true, (hu.az he).Jc]; omega)
  (fun e A he => br (c := ⟨[(ic, fj.aS), (mC, gI.aS)], []⟩) (by kernel_rfl) ⟨kP (hu.az he), sL (hu.az he), trivial⟩ trivial A)
  (fun e i he h hr hl => T7 (hu.az he) (hj.az he) hr h hl)
def hsL (m : Nat) : List (aa × List Ob) := match m with | 0 => Vx | _ => UA
theorem hsM {m : Nat} (h : (Hf.mS m || Hf.ll m) = true) : m = 0 \/ m = 1 := by
 rcases Bool.or_eq_true_iff.1 h with h | h
 ·exact .inl (bk h)
 ·exact .inr (xd h)
theorem aaA : Hf.iJ Tryz.prog 0 = some Vx := by kernel_rfl
theorem ZN : Hf.iJ Tryz.prog 1 = some UA := by kernel_rfl
theorem adT : N7 Tryz.prog Hf (aB (.v 7795)) hsL := ⟨fun m h => by
    rcases hsM h with rfl | rfl
    ·exact aaA
    ·exact ZN, by kernel_rfl, fun m => by rcases m with _ | _ <;> rfl, fun _ => rfl, by kernel_rfl, rfl, fun _ => rfl⟩
theorem WV (hu : OU o) (hj : OJ o) (A : Anchor) : ew Tryz.prog o A (hsX.x.vP.cN Tryz.prog) :=
 pz (c := hsX) (by kernel_rfl) ⟨kP hu, q9 hu, sL hu, uK hu, CG hu, trivial⟩ ⟨US hj, Wk hu hj, trivial⟩ A
theorem XE (hu : OU o) (hj : OJ o) : dz Tryz.prog o B1 5 Hf.cW :=
 adT.ok plain mixed (fun o _ _ => hU o) (fun e A he => WV (hu.az he) (hj.az he) A)
  (fun e i m he h hm hk hr hl => by
   rcases hsM hk with rfl | rfl
   ·exact OD (hu.az he) (hj.az he) hr h hm hl
   ·exact RO (hu.az he) (hj.az he) hr h hl)
end
section
variable {o : Env}
theorem VJ : gE Tryz.prog RF (.uf 331 (pk [.v 7850])) NC := ⟨by kernel_rfl, by kernel_rfl, rfl, by kernel_rfl, rfl, fun m h => bk h, fun m h => bk h, fun _ => rfl⟩
theorem Qh (hu : OU o) (hg : OG o) : dz Tryz.prog o w6 4 RF.cW :=
 VJ.ok plain mixed (fun e he h => by simp only [pk, List.foldr, SS, implies_true, (hg.az he).all]; omega) (fun e A he => br (c := ⟨[(Je, WI.aS), (ud, M9.aS)], []⟩) (by kernel_rfl) ⟨Lz (hu.az he), Qm (hu.az he), trivial⟩ trivial A) (fun e i he h hr hl => Ly (hu.az he) (hg.az he) hr hl)
theorem YL : Q1.iJ Tryz.prog = some UZ := by kernel_rfl
theorem Po (hu : OU o) (hg : OG o) : eg Tryz.prog o w6 Q1.aS :=
 ct plain mixed (D := Q1) YL (fun e A he => br (c := ⟨[], [(w6, 4, RF.cW)]⟩) (by kernel_rfl) trivial ⟨Qh (hu.az he) (hg.az he), trivial⟩ A) (fun e he h => P0 (hg.az he))
theorem Yy : gE Tryz.prog H8 (.uf 334 (pk [.v 7852])) Kq := ⟨by kernel_rfl, by kernel_rfl, rfl, by kernel_rfl, rfl, fun m h => bk h, fun m h => bk h, fun _ => rfl⟩
theorem OC (hu : OU o) (hg : OG o) : dz Tryz.prog o qM 2 H8.cW :=
 Yy.ok plain mixed (fun e he h => by simp only [pk, List.foldr, SS, implies_true, (hg.az he).all]; omega) (fun e A he => br (c := ⟨[(l5, QH.aS), (ly, LD.aS)], []⟩) (by kernel_rfl) ⟨M5 (hu.az he), OB (hu.az he), trivial⟩ trivial A) (fun e i he h hr hl => Nw (hu.az he) (hg.az he) hr h hl)
theorem T3 : Q4.iJ Tryz.prog = some Vk := by kernel_rfl
theorem RD (hu : OU o) (hg : OG o) : eg Tryz.prog o qM Q4.aS :=
 ct plain mixed (D := Q4) T3 (fun e A he => br (c := ⟨[], [(qM, 2, H8.cW)]⟩) (by kernel_rfl) trivial ⟨OC (hu.az he) (hg.az he), trivial⟩ A) (fun e he h => ON (hg.az he))
theorem NY : Gx.iJ Tryz.prog = some LZ := by kernel_rfl
theorem HY (hu : OU o) (hv : OV o) (hh : OH o) (hj : OJ o) (A : Anchor) : ew Tryz.prog o A (Ox.x.cN Tryz.prog) :=
 br (c := Ox) (by kernel_rfl) trivial ⟨WT hu hv hh hj, trivial⟩ A
theorem MJ (hu : OU o) (hv : OV o) (hh : OH o) (hj : OJ o) : eg Tryz.prog o 10 Gx.aS :=
 ct plain mixed (D := Gx) NY (fun e A he => HY (hu.az he) (hv.az he) (hh.az he) (hj.az he) A) (fun e he h => KO (hj.az he))
theorem Vl : O6.iJ Tryz.prog = some Wq := by kernel_rfl
theorem Py (hu : OU o) (hv : OV o) (hh : OH o) (hj : OJ o) : eg Tryz.prog o xk O6.aS :=
 ct plain mixed (D := O6) Vl (fun e A he => HY (hu.az he) (hv.az he) (hh.az he) (hj.az he) A) (fun e he h => N8 (hj.az he))
end
noncomputable def HU (c : Nat) (d : Dv) : Dv := if c < 200 then J9 c d else if c < 260 then abf c d else if c < 300 then adC c d else if c < 330 then aeQ c d else adt c d
theorem EK {o : Env} (h : o.uf = HU) : OU o := fun c d h1 h2 => by rw [h]; exact if_pos h2
theorem adv {o : Env} (h : o.uf = HU) : OV o := fun c d h1 h2 => by rw [h]; unfold HU; rw [if_neg (by omega), if_pos (by omega)]
theorem Zc {o : Env} (h : o.uf = HU) : OH o := fun c d h1 h2 => by rw [h]; unfold HU; rw [if_neg (by omega), if_neg (by omega), if_pos (by omega)]
theorem NZ {o : Env} (h : o.uf = HU) : OJ o := fun c d h1 h2 => by rw [h]; unfold HU; rw [if_neg (by omega), if_neg (by omega), if_neg (by omega), if_pos (by omega)]
theorem YF {o : Env} (h : o.uf = HU) : OG o := fun c d h1 h2 => by rw [h]; unfold HU; rw [if_neg (by omega), if_neg (by omega), if_neg (by omega), if_neg (by omega)]
theorem NM : FU Tryz.prog Ut.x 3 aau 80 = some Um := by kernel_rfl
theorem Qv {o : Env} (h : o.uf = HU) (A : Anchor) : ew Tryz.prog o A (Ut.x.cN Tryz.prog) :=
 br (c := Ut) (by kernel_rfl) ⟨Po (EK h) (YF h), RD (EK h) (YF h), V7 (EK h), Py (EK h) (adv h) (Zc h) (NZ h), MJ (EK h) (adv h) (Zc h) (NZ h), trivial⟩ ⟨XE (EK h) (NZ h), trivial⟩ A
theorem ag0 : ownKnob Tryz.prog.godebug = none := by kernel_rfl
theorem abg : laidOutB Tryz.prog = true := by kernel_rfl
theorem Aq (H : Type) (enc : TypeId × Value -> H) (W : World) (base : Nat) (args : Array Value) (ds gs : List (DataW H)) (before : List MemPlace)
    (hval : ∀ (j : Nat) t v, Tryz.f3.params[j]? = some t -> args[j]? = some v -> Value.okWide Tryz.prog W .any base t v)
    (hW : DataW.Whole enc Tryz.prog Tryz.f3.params.toList Rows.fnHeapSpec.vars false W args.toList ds gs before) :
    Calls Tryz.prog 3 args W fun e W' => ∃ v, e = .returned v /\ Rows.fnHeapSpec.post enc Tryz.prog Tryz.f3 false true false false W args v W' :=
 AH abg (ks := aau) (tb := 4) (by kernel_rfl) (by kernel_rfl) (by kernel_rfl) (by kernel_rfl) rfl
  (fun ds hd => by
   match ds, hd with
   | [d], _ => rfl) (fun vs hl cI => LS plain mixed (by decide) NM (fun o A hu => Qv hu A) (fun o hu => PV (EK hu) (NZ hu) (YF hu)) W vs hl cI) hval hW
theorem Fa (os : Os) (started : os.Started) (H : Type) (enc : TypeId × Value -> H) :
    ReturnsInHanded {} Tryz.checked os 3 .any (Rows.fnHeapSpec.pre6 enc Tryz.prog Tryz.f3 Rows.fnHeapRow.domain false) (Rows.fnHeapSpec.post enc Tryz.prog Tryz.f3 false true false false) := by
 refine returnsInHanded_of_change (C := Tryz.checked) (s := Rows.fnHeapSpec) ag0 started (by kernel_rfl) Tryz.func3
  (ChangeSpec.witness6 (enc := enc) (C := Tryz.checked) false ⟨#[], #[.slice none 0 0], []⟩ 8 (by kernel_rfl) (by kernel_rfl) (by kernel_rfl) (by kernel_rfl)) ?_
 intro W base args ds gs before hval hW _ _; exact Aq H enc W base args ds gs before hval hW
theorem hlwProved : Rows.FnHeapSaid :=
 OpenClaim.holds_of_wide 3 Tryz.f3 rfl rfl rfl rfl rfl rfl rfl ⟨rfl, rfl, rfl, rfl, rfl⟩ rfl rfl rfl rfl rfl (by kernel_rfl) Tryz.func3 (by kernel_rfl)
  (of_decide_eq_true (by kernel_rfl)) (by unfold Func.isWrapper; first | (rw [if_pos (by decide +kernel)]; kernel_rfl) | (rw [if_neg (by decide +kernel)]; exact ⟨rfl, rfl⟩))
  (fun os started H enc _ => Fa os started H enc)
end Go.Proofs.YtdlppkhmmclipaaGreat.sxObj
