/-
  THE LAW FnHeapSorts (proved): what is in a heap behind a history, popped to the end, comes in the order of Body and key, each object once, just those that it listed; also when it is closed. No conditions beside the law's own guards.
-/
import Derived.Test.YtdlppkhmmclipaaGreatSxHrC
import Derived.Test.YtdlppkhmmclipaaGreatSxHrB
import Derived.Test.YtdlppkhmmclipaaGreatSxHrA
import Derived.Test.YtdlppkhmmclipaaGreatRows
namespace Go.Proofs.YtdlppkhmmclipaaGreat.sxObj
open Go.Sx
set_option linter.unusedVariables false
set_option maxRecDepth 100000
abbrev kA : E := .v 7780
abbrev kc : E := .v 2207
abbrev IS : E := eC 7 kA kc
abbrev zQ : E := eC 0 kA kc
abbrev os4 : E := .o2 .lt kc (.o1 .ab kA)
abbrev os5 : aa := fT (.o2 .aX zQ (.il 1)) (fT os4 [])
abbrev qX : E := eC 1 kA kc
abbrev qY : E := eC 2 kA kc
abbrev ak : E := .il 0
abbrev gd : E := .uf 315 (eP kA ak)
abbrev kH (x : E) : E := eC 0 gd x
abbrev nY (x : E) : E := eC 2 gd x
abbrev MZ : E := eP kA (eP kc ak)
abbrev mK : E := .uf 313 MZ
abbrev JC : E := eP kA (eP (.o2 .add kc (.il 1)) ak)
abbrev sA : E := .uf 313 JC
abbrev j4 : E := .uf 310 MZ
abbrev r9 : E := .uf 310 JC
abbrev bQ : E := .uf 312 MZ
abbrev A5 : E := .uf 312 JC
abbrev aI : E := .uf 311 MZ
abbrev Ky : E := .uf 311 JC
abbrev tt : E := .uf 314 MZ
abbrev PD : List Ob := oO (.o2 .beq tt (.uf 314 JC)) []
abbrev Vl : List Ob := oP bQ A5 (oO (.o2 .aX aI Ky) PD)
abbrev aaT (x : E) : List Ob := oO (.o2 .seq (.sl []) (eC 4 gd x)) (oT ak (eC 5 gd x) (oT mK sA (oT j4 r9 Vl)))
abbrev Rp (x : E) : List Ob := oT ak (eC 3 gd x) (aaT x)
abbrev L4 (x : E) : List Ob := oO (.o2 .beq (.bl false) (eC 1 gd x)) (oT ak (nY x) (Rp x))
abbrev QX (x : E) : List Ob := oO (.uf 110 (eP qX (eP qY (eP (eC 5 kA kc) ak)))) (oO (.uf 110 (eP qX (eP qY (eP (eC 5 kA kc) ak)))) (oO (.o2 .aX (.il 1) (kH x)) (L4 x)))
abbrev XT (x : E) : List Ob := oO (.o2 .aX (.il 5) (kH x)) (L4 x)
abbrev adm (x : E) : List Ob := oO (.uf 110 (eP qX (eP qY (eP (eC 5 kA kc) ak)))) (oO (.uf 110 (eP qX (eP qY (eP (eC 5 kA kc) ak)))) (XT x))
abbrev Qc : E := .uf 100 (eP qX (eP qY ak))
abbrev fk : E := eC 1 bQ (.o2 (.mf .s) bQ Qc)
abbrev AQ : E := eP ak ak
abbrev ac5 : E := eP qX (eP qY (eP (eC 3 kA kc) (eP (eC 4 kA kc) (eP (eC 5 kA kc) (eP (eC 6 kA kc) (eP IS (eP (eC 8 kA kc) AQ)))))))
abbrev bI : E := eC 1 mK fk
abbrev Ze : E := eP bI ak
abbrev FV : E := .o2 .fA mK (eP fk (eP ac5 Ze))
abbrev se : E := eC 1 FV fk
abbrev qG : E := eP aI ak
abbrev XM : E := eP j4 (eP bQ (eP FV (eP se qG)))
abbrev abF : E := .o2 .lt se (.uf 297 XM)
abbrev Az : E := .o2 .le ak (.o2 (.mf .s) bQ Qc)
abbrev XL : aa := fF tt (fF IS os5)
abbrev I5 : E := eP j4 (eP bQ (eP FV (eP se (eP aI AQ))))
abbrev rF : E := .o1 .ab mK
abbrev cw : E := .il 1000000
abbrev bJ : E := .o1 .ab j4
abbrev J0 : E := .uf 296 XM
abbrev J8 : E := .uf 295 XM
abbrev YI : E := eP J8 (eP bQ (eP J0 (eP se AQ)))
abbrev adL : E := eP J8 (eP bQ (eP J0 (eP se ak)))
abbrev Pk : E := .o2 .fj (.o2 .de j4 aI) (eP Qc ak)
abbrev OX : E := .o2 (.mp .s) bQ (eP Qc (eP rF ak))
abbrev Ra : E := .o2 .fj mK (eP ac5 qG)
abbrev Jj : E := .o2 .add aI (.il 1)
abbrev Gh : E := .o2 .sub Jj (.il 1)
abbrev Uo : E := eP Pk (eP OX (eP Ra (eP Gh AQ)))
abbrev aby : E := eP Pk (eP OX (eP Ra (eP Gh ak)))
abbrev ael (x : E) : List Ob := oT Pk (.uf 281 Uo) (oO (.o2 .le aI bJ) (oO (.o2 .le ak aI) (oT Ra (.uf 282 Uo) (oO (.o2 .aX Gh (.uf 283 Uo)) (oO (.o2 .le (.o2 .add rF (.il 1)) cw) (oO (.o2 .le (.o2 .add (.o1 .ab (.o2 .de j4 aI)) (.il 1)) cw) (oO (.o2 .le Jj cw) (oO (.o2 .lt Gh Jj) (oO (.o2 .le ak Gh) (oO (.uf 287 (eP Pk (eP OX (eP Ra (eP Jj ak))))) (oO (.o2 .le Gh (.il 9223372036854775807)) (oO (.o2 .le (.il (-9223372036854775808)) Gh) (oO (.o2 .le ak Jj) (oO (.o2 .le aI (.il 2147483648)) (oO (.o2 .le aI bJ) (oO (.o2 .le ak aI) (oO (.o2 .le ak aI) (oO (.uf 110 (eP qX (eP qY (eP (eC 5 kA kc) ak)))) (oO (.uf 110 (eP qX (eP qY (eP (eC 5 kA kc) ak)))) (oO (.o2 .aX ak (kH x)) (oO (.o2 .beq (.bl false) (eC 1 gd x)) (oT ak (nY x) (oT ak (eC 3 gd x) (oO (.o2 .seq (.sl []) (eC 4 gd x)) (oT ak (eC 5 gd x) (oT (.uf 286 aby) sA (oT (.uf 285 aby) r9 (oP OX A5 (oO (.o2 .aX Jj Ky) PD)))))))))))))))))))))))))))))
abbrev adU : aa := fF (.o2 .aX zQ (.il 1)) (fT os4 [])
abbrev W4 : aa := fT (.o2 .aX zQ (.il 2)) adU
abbrev Qz : E := eP (eC 9 kA kc) ak
abbrev FR : E := .uf 101 Qz
abbrev K8 : E := eP FR ak
abbrev B7 : E := eP j4 (eP aI (eP bQ (eP mK (eP FR AQ))))
abbrev dy : E := .o1 .ab bQ
abbrev Va : E := eP bQ (eP mK ak)
abbrev Q1 : E := eP j4 (eP aI (eP bQ (eP mK (eP FR (eP (.uf 212 K8) ak)))))
abbrev adY (x : E) : List Ob := oO (.o2 .beq (.bl false) (eC 1 gd x)) (oT ak (nY x) (oT ak (eC 3 gd x) (oO (.o2 .seq (.sl []) (eC 4 gd x)) (oT ak (eC 5 gd x) (oT (.uf 305 Q1) sA (oT (.uf 302 Q1) r9 (oP (.uf 304 Q1) A5 (oO (.o2 .aX (.uf 303 Q1) Ky) PD))))))))
abbrev abI : aa := fF (.o2 .aX zQ (.il 2)) adU
abbrev Zd : aa := fT (.o2 .aX zQ (.il 3)) abI
abbrev aai : aa := fF tt (fF IS Zd)
abbrev Wi (x : E) : List Ob := oO (.o2 .aX ak (kH x)) (L4 x)
abbrev acY (x : E) : List Ob := oO (.uf 110 (eP qX (eP qY (eP (eC 5 kA kc) ak)))) (oO (.uf 110 (eP qX (eP qY (eP (eC 5 kA kc) ak)))) (Wi x))
abbrev aed : aa := fF (.o2 .aX zQ (.il 3)) abI
abbrev YP : aa := fT (.o2 .aX zQ (.il 4)) aed
abbrev ah : E := .o2 .sub aI (.il 1)
abbrev FP : E := eC 0 j4 ah
abbrev abT : E := .o2 .le ak (.o2 (.mf .s) bQ FP)
abbrev ab2 : aa := fT Az (fF IS YP)
abbrev aeE : aa := fT (.o2 .aX ah bI) ab2
abbrev Np : List Ob := oO (.o2 .aX ah Ky) PD
abbrev O0 : List Ob := oP bQ A5 Np
abbrev uF : E := .o2 .fA (.o2 .fA j4 (eP bI (eP FP ak))) (eP ah (eP (eC 0 j4 bI) ak))
abbrev Wk : E := .o2 (.mf .s) bQ (eC 0 uF bI)
abbrev q9 : E := eC 1 bQ Wk
abbrev aaF : E := .o2 .fA mK (eP q9 (eP (eC 0 mK q9) Ze))
abbrev X1 : E := .o2 (.mf .s) bQ (eC 0 uF ah)
abbrev su : E := eC 1 bQ X1
abbrev RF : E := eP ah ak
abbrev yz : E := .o2 .fA aaF (eP su (eP (eC 0 aaF su) RF))
abbrev Vp : E := eP uF (eP bQ (eP yz (eP bI RF)))
abbrev sB : E := .uf 295 Vp
abbrev Ol : E := .o2 (.mf .s) bQ (eC 0 sB ah)
abbrev OZ : E := .o2 .lt bI (.uf 297 Vp)
abbrev acA : aa := fF (.o2 .aX ah bI) ab2
abbrev ab0 : aa := fT (.o2 .le ak Wk) acA
abbrev Pj : aa := fT (.o2 .le ak X1) ab0
abbrev uT : E := eP uF (eP bQ (eP yz (eP bI (eP ah AQ))))
abbrev qq : E := .uf 296 Vp
abbrev wZ : E := eP sB (eP bQ (eP qq Ze))
abbrev Cu : E := eC 0 (.uf 285 wZ) ah
abbrev TO : E := .o2 .le ak (.o2 (.mf .s) bQ Cu)
abbrev zu : E := eP sB (eP bQ (eP qq (eP bI AQ)))
abbrev yL : List Ob := oO (.bl false) []
abbrev lE : E := eP bQ ak
abbrev xT : E := .uf 106 (eP (.uf 200 lE) ak)
abbrev hY : E := .o2 .de xT dy
abbrev Hf : E := .o2 .aX (.o1 .ab hY) ak
abbrev Tm : aa := fF (.o2 .aX zQ (.il 4)) aed
abbrev HK : aa := fT (.o2 .aX zQ (.il 5)) Tm
abbrev S1 : aa := fT tt (fT Hf HK)
abbrev Tw (x : E) : List Ob := oO (.o2 .le dy (.o1 .ab xT)) (oO (.o2 .le dy (.il 4611686018427387903)) (oO (.o2 .aX dy (.o1 .ab (.uf 200 lE))) (oO (.uf 201 lE) (oO (.o2 .le dy cw) (oO (.o2 .le dy (.il 2147483648)) (oO (.o2 .le dy (.il 2147483648)) (XT x)))))))
abbrev nO : E := .o2 .fA (.o2 .fA j4 (eP ak (eP FP ak))) (eP ah (eP (eC 0 j4 ak) ak))
abbrev CI : E := .o2 (.mf .s) bQ (eC 0 nO ak)
abbrev lF : E := eC 1 bQ CI
abbrev Tr : E := .o2 .fA mK (eP lF (eP (eC 0 mK lF) AQ))
abbrev Dc : E := .o2 (.mf .s) bQ (eC 0 nO ah)
abbrev lu : E := eC 1 bQ Dc
abbrev qv : E := .o2 .fA Tr (eP lu (eP (eC 0 Tr lu) RF))
abbrev qw : E := eP nO (eP bQ (eP qv (eP ak RF)))
abbrev Mz : E := eC 0 (.uf 295 qw) ah
abbrev GQ : E := .o2 .le ak (.o2 (.mf .s) bQ Mz)
abbrev S0 : aa := fF (.o2 .aX aI ak) S1
abbrev Tv : aa := fT (.o2 .le ak CI) S0
abbrev SZ : aa := fT (.o2 .le ak Dc) Tv
abbrev wC : E := eC 1 bQ (.o2 (.mf .s) bQ Mz)
abbrev lx : E := eC 0 (.uf 296 qw) wC
abbrev nJ : E := eP nO (eP bQ (eP qv (eP ak (eP ah AQ))))
abbrev Tz (x : E) : List Ob := oO (.o2 .le dy (.o1 .ab xT)) (oO (.o2 .le dy (.il 4611686018427387903)) (oO (.o2 .aX dy (.o1 .ab (.uf 200 lE))) (oO (.uf 201 lE) (oO (.o2 .le dy cw) (oO (.o2 .le dy (.il 2147483648)) (oO (.o2 .le dy (.il 2147483648)) (oO (.o2 .aX ak (kH x)) (oO (.o2 .beq (.bl false) (eC 1 gd x)) (oT (eP (eC 0 lx ak) (eP (eC 1 lx ak) (eP (eC 2 lx ak) (eP (eC 3 lx ak) (eP (eC 4 lx ak) (eP (eC 5 lx ak) (eP (eC 6 lx ak) (eP (eC 7 lx ak) ak)))))))) (nY x) (oT ak (eC 3 gd x) (oO (.o2 .seq (.sl []) (eC 4 gd x)) (oT ak (eC 5 gd x) (oT (.uf 296 qw) sA (oT (.uf 295 qw) r9 (oP (.o2 (.md .s) bQ Mz) A5 Np)))))))))))))))
abbrev TR (x : E) : List Ob := oO (.o2 .le dy (.o1 .ab xT)) (oO (.o2 .le dy (.il 4611686018427387903)) (oO (.o2 .aX dy (.o1 .ab (.uf 200 lE))) (oO (.uf 201 lE) (oO (.o2 .le dy cw) (oO (.o2 .le dy (.il 2147483648)) (oO (.o2 .le dy (.il 2147483648)) (oO (.o2 .aX (.il 5) (kH x)) (oO (.o2 .beq (.bl false) (eC 1 gd x)) (oT ak (nY x) (oT ak (eC 3 gd x) (oO (.o2 .seq (.sl []) (eC 4 gd x)) (oT ak (eC 5 gd x) (oT (.uf 296 qw) sA (oT (.uf 295 qw) r9 O0))))))))))))))
abbrev Tg : aa := fF (.o2 .aX aI ak) (fF Hf HK)
abbrev Tk : aa := fT (.o2 .le ak CI) Tg
abbrev SG : aa := fT (.o2 .le ak Dc) Tk
abbrev TF : aa := fF (.o2 .aX zQ (.il 5)) Tm
abbrev Mt : E := .uf 300 (eP hY Va)
abbrev Ti : aa := fF (.o2 .aX zQ (.il 6)) TF
abbrev Tl : aa := fF (.o2 .aX zQ (.il 7)) Ti
abbrev LG : aa := fT (.o2 .aX zQ (.il 8)) Tl
abbrev oQ : E := eC 0 mK fk
abbrev yP : E := .o2 (.mf .s) bQ (eC 10 kA kc)
abbrev SD : aa := fF (.o2 .aX zQ (.il 8)) Tl
abbrev Ud : aa := fT (.o2 .aX zQ (.il 10)) SD
abbrev oe : E := eC 0 mK (eC 1 bQ yP)
abbrev To : aa := fF (.o2 .aX zQ (.il 10)) SD
def hmG (x : E) : List (aa × List Ob) :=
 [(fT IS os5, QX x),
  (fT tt (fF IS os5), adm x),
  (fT abF (fT Az XL), oT j4 (.uf 291 I5) (oT FV (.uf 292 I5) (oO (.o2 .aX se (.uf 293 I5)) (oO (.o2 .le rF cw) (oO (.o2 .le bJ cw) (oO (.o2 .le aI cw) (oO (.o2 .le ak aI) (oO (.o2 .le se cw) (oO (.o2 .le ak se) (oO (.uf 287 (eP j4 (eP bQ (eP FV qG)))) (oO (.o2 .le ak aI) (oO (.o2 .le ak fk) (oO (.o2 .le ak fk) (oO (.o2 .le ak fk) (oO (.o2 .le ak fk) (oO (.o2 .le ak fk) (oO (.o2 .le ak fk) (oO (.uf 110 (eP qX (eP qY (eP (eC 5 kA kc) ak)))) (oO (.uf 110 (eP qX (eP qY (eP (eC 5 kA kc) ak)))) (oO (.o2 .aX ak (kH x)) (oO (.o2 .beq (.bl false) (eC 1 gd x)) (oT ak (nY x) (oT ak (eC 3 gd x) (oO (.o2 .seq (.sl []) (eC 4 gd x)) (oT ak (eC 5 gd x) (oT J0 sA (oT J8 r9 Vl))))))))))))))))))))))))))),
  (fF abF (fT Az XL), oT J8 (.uf 281 YI) (oT J0 (.uf 282 YI) (oO (.o2 .aX se (.uf 283 YI)) (oO (.o2 .le (.o1 .ab J0) cw) (oO (.o2 .le (.o1 .ab J8) cw) (oO (.o2 .le aI cw) (oO (.o2 .lt se aI) (oO (.o2 .le ak se) (oO (.uf 287 (eP J8 (eP bQ (eP J0 qG)))) (oT j4 (.uf 291 I5) (oT FV (.uf 292 I5) (oO (.o2 .aX se (.uf 293 I5)) (oO (.o2 .le rF cw) (oO (.o2 .le bJ cw) (oO (.o2 .le aI cw) (oO (.o2 .le ak aI) (oO (.o2 .le se cw) (oO (.o2 .le ak se) (oO (.uf 287 (eP j4 (eP bQ (eP FV qG)))) (oO (.o2 .le ak aI) (oO (.o2 .le ak fk) (oO (.o2 .le ak fk) (oO (.o2 .le ak fk) (oO (.o2 .le ak fk) (oO (.o2 .le ak fk) (oO (.o2 .le ak fk) (oO (.uf 110 (eP qX (eP qY (eP (eC 5 kA kc) ak)))) (oO (.uf 110 (eP qX (eP qY (eP (eC 5 kA kc) ak)))) (oO (.o2 .aX ak (kH x)) (oO (.o2 .beq (.bl false) (eC 1 gd x)) (oT ak (nY x) (oT ak (eC 3 gd x) (oO (.o2 .seq (.sl []) (eC 4 gd x)) (oT ak (eC 5 gd x) (oT (.uf 286 adL) sA (oT (.uf 285 adL) r9 Vl)))))))))))))))))))))))))))))))))))),
  (fF Az XL, ael x),
  (fT tt W4, oO (.o2 .le (.o1 .ab (eC 9 kA kc)) (.il 2147483647)) (oO (.uf 111 Qz) (XT x))),
  (fT (.uf 211 K8) (fF tt W4), oO (.o2 .aX aI (.uf 303 B7)) (oP bQ (.uf 304 B7) (oT j4 (.uf 302 B7) (oT mK (.uf 305 B7) (oO (.o2 .le dy (.il 500000)) (oO (.o2 .le rF (.il 500000)) (oO (.o2 .le bJ (.il 500000)) (oO (.o2 .le aI (.il 500000)) (oO (.o2 .le ak aI) (oO (.o2 .le (.o1 .ab FR) (.il 20)) (oO (.uf 308 (eP j4 (eP aI Va))) (oO (.o2 .le (.o1 .ab FR) cw) (oO (.uf 213 K8) (oO (.o2 .le (.o1 .ab (eC 9 kA kc)) (.il 2147483647)) (oO (.uf 111 Qz) (oO (.o2 .aX (.il 1) (kH x)) (adY x))))))))))))))))),
  (fF (.uf 211 K8) (fF tt W4), oO (.o2 .aX aI (.uf 303 B7)) (oP bQ (.uf 304 B7) (oT j4 (.uf 302 B7) (oT mK (.uf 305 B7) (oO (.o2 .le dy (.il 500000)) (oO (.o2 .le rF (.il 500000)) (oO (.o2 .le bJ (.il 500000)) (oO (.o2 .le aI (.il 500000)) (oO (.o2 .le ak aI) (oO (.o2 .le (.o1 .ab FR) (.il 20)) (oO (.uf 308 (eP j4 (eP aI Va))) (oO (.o2 .le (.o1 .ab FR) cw) (oO (.uf 213 K8) (oO (.o2 .le (.o1 .ab (eC 9 kA kc)) (.il 2147483647)) (oO (.uf 111 Qz) (oO (.o2 .aX ak (kH x)) (adY x))))))))))))))))),
  (fT IS Zd, QX x),
  (fT tt (fF IS Zd), adm x),
  (fT Az aai, acY x),
  (fF Az aai, ael x),
  (fT IS YP, QX x),
  (fT abT aeE, oO (.o2 .le ak (eC 1 bQ (.o2 (.mf .s) bQ FP))) (oO (.o2 .le ak (eC 1 bQ (.o2 (.mf .s) bQ FP))) (oO (.o2 .le ak (eC 1 bQ (.o2 (.mf .s) bQ FP))) (oO (.o2 .le ah aI) (oO (.o2 .le ak ah) (oO (.o2 .le ah (.il 9223372036854775807)) (oO (.o2 .le (.il (-9223372036854775808)) ah) (oO (.o2 .le ak aI) (oO (.o2 .lt ah bJ) (oO (.o2 .le ak ah) (oO (.o2 .lt ah aI) (oO (.o2 .le ak ah) (oO (.o2 .le ah (.il 9223372036854775807)) (oO (.o2 .le (.il (-9223372036854775808)) ah) (oO (.o2 .le ak aI) (oO (.o2 .le ah (.il 9223372036854775807)) (oO (.o2 .le (.il (-9223372036854775808)) ah) (oO (.o2 .le ak aI) (oO (.o2 .le ak fk) (oO (.o2 .le ak fk) (oO (.o2 .le ak fk) (oO (.uf 110 (eP qX (eP qY (eP (eC 5 kA kc) ak)))) (oO (.uf 110 (eP qX (eP qY (eP (eC 5 kA kc) ak)))) (oO (.o2 .aX ak (kH x)) (oO (.o2 .beq (.bl false) (eC 1 gd x)) (oT ak (nY x) (oT ak (eC 3 gd x) (oO (.o2 .seq (.sl []) (eC 4 gd x)) (oT ak (eC 5 gd x) (oT mK sA (oT j4 r9 (oP (.o2 (.md .s) bQ FP) A5 Np)))))))))))))))))))))))))))))))),
  (fF abT aeE, oO (.o2 .le ah aI) (oO (.o2 .le ak ah) (oO (.o2 .le ah (.il 9223372036854775807)) (oO (.o2 .le (.il (-9223372036854775808)) ah) (oO (.o2 .le ak aI) (oO (.o2 .lt ah bJ) (oO (.o2 .le ak ah) (oO (.o2 .lt ah aI) (oO (.o2 .le ak ah) (oO (.o2 .le ah (.il 9223372036854775807)) (oO (.o2 .le (.il (-9223372036854775808)) ah) (oO (.o2 .le ak aI) (oO (.o2 .le ah (.il 9223372036854775807)) (oO (.o2 .le (.il (-9223372036854775808)) ah) (oO (.o2 .le ak aI) (oO (.o2 .le ak fk) (oO (.o2 .le ak fk) (oO (.o2 .le ak fk) (oO (.uf 110 (eP qX (eP qY (eP (eC 5 kA kc) ak)))) (oO (.uf 110 (eP qX (eP qY (eP (eC 5 kA kc) ak)))) (oO (.o2 .aX ak (kH x)) (oO (.o2 .beq (.bl false) (eC 1 gd x)) (oT ak (nY x) (oT ak (eC 3 gd x) (oO (.o2 .seq (.sl []) (eC 4 gd x)) (oT ak (eC 5 gd x) (oT mK sA (oT j4 r9 O0)))))))))))))))))))))))))))),
  (fT (.o2 .le ak Ol) (fT OZ Pj), oO (.o2 .le ak (eC 1 bQ Ol)) (oO (.o2 .le ak (eC 1 bQ Ol)) (oO (.o2 .le ak (eC 1 bQ Ol)) (oO (.o2 .le ah aI) (oO (.o2 .le ak ah) (oO (.o2 .le ah (.il 9223372036854775807)) (oO (.o2 .le (.il (-9223372036854775808)) ah) (oO (.o2 .le ak aI) (oO (.o2 .lt ah (.o1 .ab sB)) (oO (.o2 .le ak ah) (oO (.o2 .lt ah aI) (oO (.o2 .le ak ah) (oO (.o2 .le ah (.il 9223372036854775807)) (oO (.o2 .le (.il (-9223372036854775808)) ah) (oO (.o2 .le ak aI) (oT uF (.uf 291 uT) (oT yz (.uf 292 uT) (oO (.o2 .aX bI (.uf 293 uT)) (oO (.o2 .le rF cw) (oO (.o2 .le bJ cw) (oO (.o2 .le aI cw) (oO (.o2 .le ah aI) (oO (.o2 .le ak ah) (oO (.o2 .le bI cw) (oO (.o2 .le ak bI) (oO (.uf 287 (eP uF (eP bQ (eP yz qG)))) (oO (.o2 .le ak su) (oO (.o2 .le ak su) (oO (.o2 .le ak su) (oO (.o2 .lt ah bJ) (oO (.o2 .le ak ah) (oO (.o2 .lt ah aI) (oO (.o2 .le ak ah) (oO (.o2 .le ak q9) (oO (.o2 .le ak q9) (oO (.o2 .le ak q9) (oO (.o2 .lt bI bJ) (oO (.o2 .le ak bI) (oO (.o2 .lt bI aI) (oO (.o2 .le ak bI) (oO (.o2 .lt ah bJ) (oO (.o2 .lt ah bJ) (oO (.o2 .le ak ah) (oO (.o2 .lt ah aI) (oO (.o2 .le ak ah) (oO (.o2 .lt bI bJ) (oO (.o2 .lt bI bJ) (oO (.o2 .le ak bI) (oO (.o2 .lt bI aI) (oO (.o2 .le ak bI) (oO (.o2 .lt bI bJ) (oO (.o2 .le ak bI) (oO (.o2 .lt bI aI) (oO (.o2 .le ak bI) (oO (.o2 .lt ah bJ) (oO (.o2 .le ak ah) (oO (.o2 .lt ah aI) (oO (.o2 .le ak ah) (oO (.o2 .le ah (.il 9223372036854775807)) (oO (.o2 .le (.il (-9223372036854775808)) ah) (oO (.o2 .le ak aI) (oO (.o2 .le ak fk) (oO (.o2 .le ak fk) (oO (.o2 .le ak fk) (oO (.uf 110 (eP qX (eP qY (eP (eC 5 kA kc) ak)))) (oO (.uf 110 (eP qX (eP qY (eP (eC 5 kA kc) ak)))) (oO (.o2 .aX ak (kH x)) (oO (.o2 .beq (.bl false) (eC 1 gd x)) (oT ak (nY x) (oT ak (eC 3 gd x) (oO (.o2 .seq (.sl []) (eC 4 gd x)) (oT ak (eC 5 gd x) (oT qq sA (oT sB r9 (oP (.o2 (.md .s) bQ (eC 0 sB ah)) A5 Np))))))))))))))))))))))))))))))))))))))))))))))))))))))))))))))))))))))))))),
  (fF (.o2 .le ak Ol) (fT OZ Pj), oO (.o2 .le ah aI) (oO (.o2 .le ak ah) (oO (.o2 .le ah (.il 9223372036854775807)) (oO (.o2 .le (.il (-9223372036854775808)) ah) (oO (.o2 .le ak aI) (oO (.o2 .lt ah (.o1 .ab sB)) (oO (.o2 .le ak ah) (oO (.o2 .lt ah aI) (oO (.o2 .le ak ah) (oO (.o2 .le ah (.il 9223372036854775807)) (oO (.o2 .le (.il (-9223372036854775808)) ah) (oO (.o2 .le ak aI) (oT uF (.uf 291 uT) (oT yz (.uf 292 uT) (oO (.o2 .aX bI (.uf 293 uT)) (oO (.o2 .le rF cw) (oO (.o2 .le bJ cw) (oO (.o2 .le aI cw) (oO (.o2 .le ah aI) (oO (.o2 .le ak ah) (oO (.o2 .le bI cw) (oO (.o2 .le ak bI) (oO (.uf 287 (eP uF (eP bQ (eP yz qG)))) (oO (.o2 .le ak su) (oO (.o2 .le ak su) (oO (.o2 .le ak su) (oO (.o2 .lt ah bJ) (oO (.o2 .le ak ah) (oO (.o2 .lt ah aI) (oO (.o2 .le ak ah) (oO (.o2 .le ak q9) (oO (.o2 .le ak q9) (oO (.o2 .le ak q9) (oO (.o2 .lt bI bJ) (oO (.o2 .le ak bI) (oO (.o2 .lt bI aI) (oO (.o2 .le ak bI) (oO (.o2 .lt ah bJ) (oO (.o2 .lt ah bJ) (oO (.o2 .le ak ah) (oO (.o2 .lt ah aI) (oO (.o2 .le ak ah) (oO (.o2 .lt bI bJ) (oO (.o2 .lt bI bJ) (oO (.o2 .le ak bI) (oO (.o2 .lt bI aI) (oO (.o2 .le ak bI) (oO (.o2 .lt bI bJ) (oO (.o2 .le ak bI) (oO (.o2 .lt bI aI) (oO (.o2 .le ak bI) (oO (.o2 .lt ah bJ) (oO (.o2 .le ak ah) (oO (.o2 .lt ah aI) (oO (.o2 .le ak ah) (oO (.o2 .le ah (.il 9223372036854775807)) (oO (.o2 .le (.il (-9223372036854775808)) ah) (oO (.o2 .le ak aI) (oO (.o2 .le ak fk) (oO (.o2 .le ak fk) (oO (.o2 .le ak fk) (oO (.uf 110 (eP qX (eP qY (eP (eC 5 kA kc) ak)))) (oO (.uf 110 (eP qX (eP qY (eP (eC 5 kA kc) ak)))) (oO (.o2 .aX ak (kH x)) (oO (.o2 .beq (.bl false) (eC 1 gd x)) (oT ak (nY x) (oT ak (eC 3 gd x) (oO (.o2 .seq (.sl []) (eC 4 gd x)) (oT ak (eC 5 gd x) (oT qq sA (oT sB r9 O0))))))))))))))))))))))))))))))))))))))))))))))))))))))))))))))))))))))),
  (fT TO (fF OZ Pj), oO (.o2 .le ak (eC 1 bQ (.o2 (.mf .s) bQ Cu))) (oO (.o2 .le ak (eC 1 bQ (.o2 (.mf .s) bQ Cu))) (oO (.o2 .le ak (eC 1 bQ (.o2 (.mf .s) bQ Cu))) (oO (.o2 .le ah aI) (oO (.o2 .le ak ah) (oO (.o2 .le ah (.il 9223372036854775807)) (oO (.o2 .le (.il (-9223372036854775808)) ah) (oO (.o2 .le ak aI) (oO (.o2 .lt ah (.o1 .ab (.uf 285 wZ))) (oO (.o2 .le ak ah) (oO (.o2 .lt ah aI) (oO (.o2 .le ak ah) (oO (.o2 .le ah (.il 9223372036854775807)) (oO (.o2 .le (.il (-9223372036854775808)) ah) (oO (.o2 .le ak aI) (oT sB (.uf 281 zu) (oT qq (.uf 282 zu) (oO (.o2 .aX bI (.uf 283 zu)) (oO (.o2 .le (.o1 .ab qq) cw) (oO (.o2 .le (.o1 .ab sB) cw) (oO (.o2 .le aI cw) (oO (.o2 .lt bI aI) (oO (.o2 .le ak bI) (oO (.uf 287 (eP sB (eP bQ (eP qq qG)))) (oT uF (.uf 291 uT) (oT yz (.uf 292 uT) (oO (.o2 .aX bI (.uf 293 uT)) (oO (.o2 .le rF cw) (oO (.o2 .le bJ cw) (oO (.o2 .le aI cw) (oO (.o2 .le ah aI) (oO (.o2 .le ak ah) (oO (.o2 .le bI cw) (oO (.o2 .le ak bI) (oO (.uf 287 (eP uF (eP bQ (eP yz qG)))) (oO (.o2 .le ak su) (oO (.o2 .le ak su) (oO (.o2 .le ak su) (oO (.o2 .lt ah bJ) (oO (.o2 .le ak ah) (oO (.o2 .lt ah aI) (oO (.o2 .le ak ah) (oO (.o2 .le ak q9) (oO (.o2 .le ak q9) (oO (.o2 .le ak q9) (oO (.o2 .lt bI bJ) (oO (.o2 .le ak bI) (oO (.o2 .lt bI aI) (oO (.o2 .le ak bI) (oO (.o2 .lt ah bJ) (oO (.o2 .lt ah bJ) (oO (.o2 .le ak ah) (oO (.o2 .lt ah aI) (oO (.o2 .le ak ah) (oO (.o2 .lt bI bJ) (oO (.o2 .lt bI bJ) (oO (.o2 .le ak bI) (oO (.o2 .lt bI aI) (oO (.o2 .le ak bI) (oO (.o2 .lt bI bJ) (oO (.o2 .le ak bI) (oO (.o2 .lt bI aI) (oO (.o2 .le ak bI) (oO (.o2 .lt ah bJ) (oO (.o2 .le ak ah) (oO (.o2 .lt ah aI) (oO (.o2 .le ak ah) (oO (.o2 .le ah (.il 9223372036854775807)) (oO (.o2 .le (.il (-9223372036854775808)) ah) (oO (.o2 .le ak aI) (oO (.o2 .le ak fk) (oO (.o2 .le ak fk) (oO (.o2 .le ak fk) (oO (.uf 110 (eP qX (eP qY (eP (eC 5 kA kc) ak)))) (oO (.uf 110 (eP qX (eP qY (eP (eC 5 kA kc) ak)))) (oO (.o2 .aX ak (kH x)) (oO (.o2 .beq (.bl false) (eC 1 gd x)) (oT ak (nY x) (oT ak (eC 3 gd x) (oO (.o2 .seq (.sl []) (eC 4 gd x)) (oT ak (eC 5 gd x) (oT (.uf 286 wZ) sA (oT (.uf 285 wZ) r9 (oP (.o2 (.md .s) bQ Cu) A5 Np)))))))))))))))))))))))))))))))))))))))))))))))))))))))))))))))))))))))))))))))))))),
  (fF TO (fF OZ Pj), oO (.o2 .le ah aI) (oO (.o2 .le ak ah) (oO (.o2 .le ah (.il 9223372036854775807)) (oO (.o2 .le (.il (-9223372036854775808)) ah) (oO (.o2 .le ak aI) (oO (.o2 .lt ah (.o1 .ab (.uf 285 wZ))) (oO (.o2 .le ak ah) (oO (.o2 .lt ah aI) (oO (.o2 .le ak ah) (oO (.o2 .le ah (.il 9223372036854775807)) (oO (.o2 .le (.il (-9223372036854775808)) ah) (oO (.o2 .le ak aI) (oT sB (.uf 281 zu) (oT qq (.uf 282 zu) (oO (.o2 .aX bI (.uf 283 zu)) (oO (.o2 .le (.o1 .ab qq) cw) (oO (.o2 .le (.o1 .ab sB) cw) (oO (.o2 .le aI cw) (oO (.o2 .lt bI aI) (oO (.o2 .le ak bI) (oO (.uf 287 (eP sB (eP bQ (eP qq qG)))) (oT uF (.uf 291 uT) (oT yz (.uf 292 uT) (oO (.o2 .aX bI (.uf 293 uT)) (oO (.o2 .le rF cw) (oO (.o2 .le bJ cw) (oO (.o2 .le aI cw) (oO (.o2 .le ah aI) (oO (.o2 .le ak ah) (oO (.o2 .le bI cw) (oO (.o2 .le ak bI) (oO (.uf 287 (eP uF (eP bQ (eP yz qG)))) (oO (.o2 .le ak su) (oO (.o2 .le ak su) (oO (.o2 .le ak su) (oO (.o2 .lt ah bJ) (oO (.o2 .le ak ah) (oO (.o2 .lt ah aI) (oO (.o2 .le ak ah) (oO (.o2 .le ak q9) (oO (.o2 .le ak q9) (oO (.o2 .le ak q9) (oO (.o2 .lt bI bJ) (oO (.o2 .le ak bI) (oO (.o2 .lt bI aI) (oO (.o2 .le ak bI) (oO (.o2 .lt ah bJ) (oO (.o2 .lt ah bJ) (oO (.o2 .le ak ah) (oO (.o2 .lt ah aI) (oO (.o2 .le ak ah) (oO (.o2 .lt bI bJ) (oO (.o2 .lt bI bJ) (oO (.o2 .le ak bI) (oO (.o2 .lt bI aI) (oO (.o2 .le ak bI) (oO (.o2 .lt bI bJ) (oO (.o2 .le ak bI) (oO (.o2 .lt bI aI) (oO (.o2 .le ak bI) (oO (.o2 .lt ah bJ) (oO (.o2 .le ak ah) (oO (.o2 .lt ah aI) (oO (.o2 .le ak ah) (oO (.o2 .le ah (.il 9223372036854775807)) (oO (.o2 .le (.il (-9223372036854775808)) ah) (oO (.o2 .le ak aI) (oO (.o2 .le ak fk) (oO (.o2 .le ak fk) (oO (.o2 .le ak fk) (oO (.uf 110 (eP qX (eP qY (eP (eC 5 kA kc) ak)))) (oO (.uf 110 (eP qX (eP qY (eP (eC 5 kA kc) ak)))) (oO (.o2 .aX ak (kH x)) (oO (.o2 .beq (.bl false) (eC 1 gd x)) (oT ak (nY x) (oT ak (eC 3 gd x) (oO (.o2 .seq (.sl []) (eC 4 gd x)) (oT ak (eC 5 gd x) (oT (.uf 286 wZ) sA (oT (.uf 285 wZ) r9 O0)))))))))))))))))))))))))))))))))))))))))))))))))))))))))))))))))))))))))))))))),
  (fF (.o2 .le ak X1) ab0, yL),
  (fF (.o2 .le ak Wk) acA, yL),
  (fF Az (fF IS YP), oO (.uf 110 (eP qX (eP qY (eP (eC 5 kA kc) ak)))) (oO (.uf 110 (eP qX (eP qY (eP (eC 5 kA kc) ak)))) (oO (.o2 .aX (.il 14) (kH x)) (L4 x)))),
  (fT (.o2 .aX aI ak) S1, oO (.o2 .aX dy (.o1 .ab hY)) (Tw x)),
  (fT GQ SZ, oO (.uf 110 (eP (eC 0 lx ak) (eP (eC 1 lx ak) (eP (eC 4 lx ak) ak)))) (oO (.o2 .le ak wC) (oO (.o2 .le ak wC) (oO (.o2 .le ak wC) (oO (.o2 .le ah aI) (oO (.o2 .le ak ah) (oO (.o2 .le ah (.il 9223372036854775807)) (oO (.o2 .le (.il (-9223372036854775808)) ah) (oO (.o2 .le ak aI) (oO (.o2 .lt ah (.o1 .ab (.uf 295 qw))) (oO (.o2 .le ak ah) (oO (.o2 .lt ah aI) (oO (.o2 .le ak ah) (oO (.o2 .le ah (.il 9223372036854775807)) (oO (.o2 .le (.il (-9223372036854775808)) ah) (oO (.o2 .le ak aI) (oT nO (.uf 291 nJ) (oT qv (.uf 292 nJ) (oO (.o2 .aX ak (.uf 293 nJ)) (oO (.o2 .le rF cw) (oO (.o2 .le bJ cw) (oO (.o2 .le aI cw) (oO (.o2 .le ah aI) (oO (.o2 .le ak ah) (oO (.uf 287 (eP nO (eP bQ (eP qv qG)))) (oO (.o2 .le ak lu) (oO (.o2 .le ak lu) (oO (.o2 .le ak lu) (oO (.o2 .lt ah bJ) (oO (.o2 .le ak ah) (oO (.o2 .lt ah aI) (oO (.o2 .le ak ah) (oO (.o2 .le ak lF) (oO (.o2 .le ak lF) (oO (.o2 .le ak lF) (oO (.o2 .lt ak bJ) (oO (.o2 .lt ak aI) (oO (.o2 .lt ah bJ) (oO (.o2 .lt ah bJ) (oO (.o2 .le ak ah) (oO (.o2 .lt ah aI) (oO (.o2 .le ak ah) (oO (.o2 .lt ak bJ) (oO (.o2 .lt ak bJ) (oO (.o2 .lt ak aI) (oO (.o2 .lt ak bJ) (oO (.o2 .lt ak aI) (oO (.o2 .lt ah bJ) (oO (.o2 .le ak ah) (oO (.o2 .lt ah aI) (oO (.o2 .le ak ah) (oO (.o2 .le ah (.il 9223372036854775807)) (oO (.o2 .le (.il (-9223372036854775808)) ah) (oO (.o2 .le ak aI) (oO (.o2 .le ak aI) (oO (.o2 .aX dy (.o1 .ab hY)) (Tz x))))))))))))))))))))))))))))))))))))))))))))))))))))))))),
  (fF GQ SZ, oO (.o2 .le ah aI) (oO (.o2 .le ak ah) (oO (.o2 .le ah (.il 9223372036854775807)) (oO (.o2 .le (.il (-9223372036854775808)) ah) (oO (.o2 .le ak aI) (oO (.o2 .lt ah (.o1 .ab (.uf 295 qw))) (oO (.o2 .le ak ah) (oO (.o2 .lt ah aI) (oO (.o2 .le ak ah) (oO (.o2 .le ah (.il 9223372036854775807)) (oO (.o2 .le (.il (-9223372036854775808)) ah) (oO (.o2 .le ak aI) (oT nO (.uf 291 nJ) (oT qv (.uf 292 nJ) (oO (.o2 .aX ak (.uf 293 nJ)) (oO (.o2 .le rF cw) (oO (.o2 .le bJ cw) (oO (.o2 .le aI cw) (oO (.o2 .le ah aI) (oO (.o2 .le ak ah) (oO (.uf 287 (eP nO (eP bQ (eP qv qG)))) (oO (.o2 .le ak lu) (oO (.o2 .le ak lu) (oO (.o2 .le ak lu) (oO (.o2 .lt ah bJ) (oO (.o2 .le ak ah) (oO (.o2 .lt ah aI) (oO (.o2 .le ak ah) (oO (.o2 .le ak lF) (oO (.o2 .le ak lF) (oO (.o2 .le ak lF) (oO (.o2 .lt ak bJ) (oO (.o2 .lt ak aI) (oO (.o2 .lt ah bJ) (oO (.o2 .lt ah bJ) (oO (.o2 .le ak ah) (oO (.o2 .lt ah aI) (oO (.o2 .le ak ah) (oO (.o2 .lt ak bJ) (oO (.o2 .lt ak bJ) (oO (.o2 .lt ak aI) (oO (.o2 .lt ak bJ) (oO (.o2 .lt ak aI) (oO (.o2 .lt ah bJ) (oO (.o2 .le ak ah) (oO (.o2 .lt ah aI) (oO (.o2 .le ak ah) (oO (.o2 .le ah (.il 9223372036854775807)) (oO (.o2 .le (.il (-9223372036854775808)) ah) (oO (.o2 .le ak aI) (oO (.o2 .le ak aI) (oO (.o2 .aX dy (.o1 .ab hY)) (TR x))))))))))))))))))))))))))))))))))))))))))))))))))))),
  (fF (.o2 .le ak Dc) Tv, yL),
  (fF (.o2 .le ak CI) S0, yL),
  (fF tt (fT Hf HK), oO (.o2 .aX dy (.o1 .ab hY)) (oO (.o2 .le dy (.o1 .ab xT)) (oO (.o2 .le dy (.il 4611686018427387903)) (oO (.o2 .aX dy (.o1 .ab (.uf 200 lE))) (oO (.uf 201 lE) (oO (.o2 .le dy cw) (oO (.o2 .le dy (.il 2147483648)) (oO (.o2 .le dy (.il 2147483648)) (oO (.o2 .aX (.il 99) (kH x)) (L4 x)))))))))),
  (fT (.o2 .aX aI ak) (fF Hf HK), oO (.o2 .or (.o2 .lt ak aI) tt) (oO (.o2 .aX dy (.o1 .ab hY)) (oO (.o2 .le (.o1 .ab hY) cw) (Tw x)))),
  (fT GQ SG, oO (.uf 110 (eP (eC 0 lx ak) (eP (eC 1 lx ak) (eP (eC 4 lx ak) ak)))) (oO (.o2 .le ak wC) (oO (.o2 .le ak wC) (oO (.o2 .le ak wC) (oO (.o2 .le ah aI) (oO (.o2 .le ak ah) (oO (.o2 .le ah (.il 9223372036854775807)) (oO (.o2 .le (.il (-9223372036854775808)) ah) (oO (.o2 .le ak aI) (oO (.o2 .lt ah (.o1 .ab (.uf 295 qw))) (oO (.o2 .le ak ah) (oO (.o2 .lt ah aI) (oO (.o2 .le ak ah) (oO (.o2 .le ah (.il 9223372036854775807)) (oO (.o2 .le (.il (-9223372036854775808)) ah) (oO (.o2 .le ak aI) (oT nO (.uf 291 nJ) (oT qv (.uf 292 nJ) (oO (.o2 .aX ak (.uf 293 nJ)) (oO (.o2 .le rF cw) (oO (.o2 .le bJ cw) (oO (.o2 .le aI cw) (oO (.o2 .le ah aI) (oO (.o2 .le ak ah) (oO (.uf 287 (eP nO (eP bQ (eP qv qG)))) (oO (.o2 .le ak lu) (oO (.o2 .le ak lu) (oO (.o2 .le ak lu) (oO (.o2 .lt ah bJ) (oO (.o2 .le ak ah) (oO (.o2 .lt ah aI) (oO (.o2 .le ak ah) (oO (.o2 .le ak lF) (oO (.o2 .le ak lF) (oO (.o2 .le ak lF) (oO (.o2 .lt ak bJ) (oO (.o2 .lt ak aI) (oO (.o2 .lt ah bJ) (oO (.o2 .lt ah bJ) (oO (.o2 .le ak ah) (oO (.o2 .lt ah aI) (oO (.o2 .le ak ah) (oO (.o2 .lt ak bJ) (oO (.o2 .lt ak bJ) (oO (.o2 .lt ak aI) (oO (.o2 .lt ak bJ) (oO (.o2 .lt ak aI) (oO (.o2 .lt ah bJ) (oO (.o2 .le ak ah) (oO (.o2 .lt ah aI) (oO (.o2 .le ak ah) (oO (.o2 .le ah (.il 9223372036854775807)) (oO (.o2 .le (.il (-9223372036854775808)) ah) (oO (.o2 .le ak aI) (oO (.o2 .or (.o2 .lt ak aI) tt) (oO (.o2 .le ak aI) (oO (.o2 .aX dy (.o1 .ab hY)) (oO (.o2 .le (.o1 .ab hY) cw) (Tz x))))))))))))))))))))))))))))))))))))))))))))))))))))))))))),
  (fF GQ SG, oO (.o2 .le ah aI) (oO (.o2 .le ak ah) (oO (.o2 .le ah (.il 9223372036854775807)) (oO (.o2 .le (.il (-9223372036854775808)) ah) (oO (.o2 .le ak aI) (oO (.o2 .lt ah (.o1 .ab (.uf 295 qw))) (oO (.o2 .le ak ah) (oO (.o2 .lt ah aI) (oO (.o2 .le ak ah) (oO (.o2 .le ah (.il 9223372036854775807)) (oO (.o2 .le (.il (-9223372036854775808)) ah) (oO (.o2 .le ak aI) (oT nO (.uf 291 nJ) (oT qv (.uf 292 nJ) (oO (.o2 .aX ak (.uf 293 nJ)) (oO (.o2 .le rF cw) (oO (.o2 .le bJ cw) (oO (.o2 .le aI cw) (oO (.o2 .le ah aI) (oO (.o2 .le ak ah) (oO (.uf 287 (eP nO (eP bQ (eP qv qG)))) (oO (.o2 .le ak lu) (oO (.o2 .le ak lu) (oO (.o2 .le ak lu) (oO (.o2 .lt ah bJ) (oO (.o2 .le ak ah) (oO (.o2 .lt ah aI) (oO (.o2 .le ak ah) (oO (.o2 .le ak lF) (oO (.o2 .le ak lF) (oO (.o2 .le ak lF) (oO (.o2 .lt ak bJ) (oO (.o2 .lt ak aI) (oO (.o2 .lt ah bJ) (oO (.o2 .lt ah bJ) (oO (.o2 .le ak ah) (oO (.o2 .lt ah aI) (oO (.o2 .le ak ah) (oO (.o2 .lt ak bJ) (oO (.o2 .lt ak bJ) (oO (.o2 .lt ak aI) (oO (.o2 .lt ak bJ) (oO (.o2 .lt ak aI) (oO (.o2 .lt ah bJ) (oO (.o2 .le ak ah) (oO (.o2 .lt ah aI) (oO (.o2 .le ak ah) (oO (.o2 .le ah (.il 9223372036854775807)) (oO (.o2 .le (.il (-9223372036854775808)) ah) (oO (.o2 .le ak aI) (oO (.o2 .or (.o2 .lt ak aI) tt) (oO (.o2 .le ak aI) (oO (.o2 .aX dy (.o1 .ab hY)) (oO (.o2 .le (.o1 .ab hY) cw) (TR x))))))))))))))))))))))))))))))))))))))))))))))))))))))),
  (fF (.o2 .le ak Dc) Tk, yL),
  (fF (.o2 .le ak CI) Tg, yL),
  (fT (.o2 .aX zQ (.il 6)) TF, oO (.o2 .le (.o1 .ab Mt) cw) (oO (.uf 113 (eP Mt ak)) (oO (.o2 .aX dy (.o1 .ab hY)) (oO (.uf 301 (eP hY lE)) (oO (.o2 .le (.o1 .ab hY) cw) (oO (.o2 .le dy (.o1 .ab xT)) (oO (.o2 .le dy (.il 4611686018427387903)) (oO (.o2 .aX dy (.o1 .ab (.uf 200 lE))) (oO (.uf 201 lE) (oO (.o2 .le dy cw) (oO (.o2 .le dy (.il 2147483648)) (oO (.o2 .le dy (.il 2147483648)) (oO (.o2 .aX ak (kH x)) (oO (.o2 .beq (.bl false) (eC 1 gd x)) (oT (.uf 102 (eP Mt ak)) (nY x) (Rp x)))))))))))))))),
  (fT (.o2 .aX zQ (.il 7)) Ti, oO (.o2 .le (.o1 .ab hY) cw) (oO (.o2 .aX dy (.o1 .ab hY)) (oO (.o2 .le (.o1 .ab hY) cw) (oO (.o2 .le dy (.o1 .ab xT)) (oO (.o2 .le dy (.il 4611686018427387903)) (oO (.o2 .aX dy (.o1 .ab (.uf 200 lE))) (oO (.uf 201 lE) (oO (.o2 .le dy cw) (oO (.o2 .le dy (.il 2147483648)) (oO (.o2 .le dy (.il 2147483648)) (oO (.o2 .aX ak (kH x)) (oO (.o2 .beq (.bl false) (eC 1 gd x)) (oT ak (nY x) (oT (.uf 106 (eP hY ak)) (eC 3 gd x) (aaT x))))))))))))))),
  (fT IS LG, QX x),
  (fT Az (fF IS LG), oO (.uf 110 (eP (eC 0 oQ ak) (eP (eC 1 oQ ak) (eP (eC 4 oQ ak) ak)))) (oO (.o2 .le ak fk) (oO (.o2 .le ak fk) (oO (.o2 .le ak fk) (oO (.uf 110 (eP qX (eP qY (eP (eC 5 kA kc) ak)))) (oO (.uf 110 (eP qX (eP qY (eP (eC 5 kA kc) ak)))) (oO (.o2 .aX ak (kH x)) (oO (.o2 .beq (.bl true) (eC 1 gd x)) (oT (eP (eC 0 oQ ak) (eP (eC 1 oQ ak) (eP (eC 2 oQ ak) (eP (eC 3 oQ ak) (eP (eC 4 oQ ak) (eP (eC 5 oQ ak) (eP (eC 6 oQ ak) (eP (eC 7 oQ ak) ak)))))))) (nY x) (Rp x)))))))))),
  (fF Az (fF IS LG), acY x),
  (fT (.o2 .le ak yP) Ud, oO (.uf 110 (eP (eC 0 oe ak) (eP (eC 1 oe ak) (eP (eC 4 oe ak) ak)))) (oO (.o2 .le ak (eC 1 bQ yP)) (oO (.o2 .le ak (eC 1 bQ yP)) (oO (.o2 .le ak (eC 1 bQ yP)) (oO (.o2 .aX ak (kH x)) (oO (.o2 .beq (.bl true) (eC 1 gd x)) (oT (eP (eC 0 oe ak) (eP (eC 1 oe ak) (eP (eC 2 oe ak) (eP (eC 3 oe ak) (eP (eC 4 oe ak) (eP (eC 5 oe ak) (eP (eC 6 oe ak) (eP (eC 7 oe ak) ak)))))))) (nY x) (Rp x)))))))),
  (fF (.o2 .le ak yP) Ud, Wi x),
  (fT (.o2 .aX zQ (.il 9)) To, oO (.o2 .aX ak (kH x)) (oO (.o2 .beq (.bl false) (eC 1 gd x)) (oT ak (nY x) (oT ak (eC 3 gd x) (oO (.o2 .seq (.sl []) (eC 4 gd x)) (oT ak (eC 5 gd x) (oT mK sA (oT j4 r9 (oP bQ A5 (oO (.o2 .aX aI Ky) (oO (.o2 .beq (.bl true) (.uf 314 JC)) []))))))))))),
  (fF (.o2 .aX zQ (.il 9)) To, Wi x)]
abbrev Tb : List Ob := oT mK (.uf 317 (eP kA ak)) []
def RD : List (aa × List Ob) :=
 hmG (.il 0) ++ [(fF os4 [], oT ak gd Tb)]
def Pe : List (aa × List Ob) :=
 hmG (.v 2207) ++ [(fF os4 [], oO (.o2 .le kc (.o1 .ab gd)) (oT (.o2 .de gd kc) gd Tb))]
end Go.Proofs.YtdlppkhmmclipaaGreat.sxObj
namespace Go.Proofs.YtdlppkhmmclipaaGreat.sxObj
open Go.Sx Go.RowKit Go.Proofs.YtdlppkhmmclipaaGreat
set_option linter.unusedVariables false
set_option linter.unusedSimpArgs false
set_option maxRecDepth 100000
set_option maxHeartbeats 4000000
theorem acq {p : Row} : iP (cc p 1).S (cc p 2).S = bj p := id rfl
theorem aaU {p : Row} : O2.den .bT (cc p 1) (O2.den .bT (cc p 2) (O2.den .bT (cc p 3) (O2.den .bT (cc p 4) (O2.den .bT (cc p 5) (O2.den .bT (cc p 6) (O2.den .bT (cc p 7) (O2.den .bT (cc p 8) (O2.den .bT (.i 0) (.i 0))))))))) = dK p := id rfl
theorem aeM {h : HM} {k : Dv} : (cc (row (.t h.A) (dM (.t h.I) k).toNat) 1).I = gq h k := id rfl
theorem adq {h : HM} {i : Nat} : cc (row (.t h.B) i) 0 = h.key i := id rfl
theorem yB {h : HM} {i j : Nat} : (h.B.set i [h.key j]).set j [h.key i] = (bm h i j).B := id rfl
theorem yC {h : HM} {i j a : Nat} : cc (row (.t (bm h i j).B) a) 0 = (bm h i j).key a := id rfl
theorem Jw {h : HM} {i j : Nat} : (h.A.set (dM (.t h.I) ((bm h i j).key i)).toNat [cc (row (.t h.A) (dM (.t h.I) ((bm h i j).key i)).toNat) 0, .i i]).set (dM (.t h.I) ((bm h i j).key j)).toNat [cc (row (.t (h.A.set (dM (.t h.I) ((bm h i j).key i)).toNat [cc (row (.t h.A) (dM (.t h.I) ((bm h i j).key i)).toNat) 0, .i i])) (dM (.t h.I) ((bm h i j).key j)).toNat) 0, .i j] = (bm h i j).A := id rfl
theorem Io {h : HM} {j : Nat} : (h.A.set (dM (.t h.I) ((bm h 0 j).key 0)).toNat [cc (row (.t h.A) (dM (.t h.I) ((bm h 0 j).key 0)).toNat) 0, .i 0]).set (dM (.t h.I) ((bm h 0 j).key j)).toNat [cc (row (.t (h.A.set (dM (.t h.I) ((bm h 0 j).key 0)).toNat [cc (row (.t h.A) (dM (.t h.I) ((bm h 0 j).key 0)).toNat) 0, .i 0])) (dM (.t h.I) ((bm h 0 j).key j)).toNat) 0, .i j] = (bm h 0 j).A := id rfl
section
variable {h : HM} {i j m r a : Nat}
theorem Ar : (dD (.t (bm h i j).B) (.t h.I) (.t (bm h i j).A) m r (wU (.t (bm h i j).B) (.t h.I) (.t (bm h i j).A) m r)).A = (cO (bm h i j) m r).A := id rfl
theorem A1 : (dD (.t (bm h i j).B) (.t h.I) (.t (bm h i j).A) m r (wU (.t (bm h i j).B) (.t h.I) (.t (bm h i j).A) m r)).B = (cO (bm h i j) m r).B := id rfl
theorem Bp : (dD (.t (bm h i j).B) (.t h.I) (.t (bm h i j).A) m r (wU (.t (bm h i j).B) (.t h.I) (.t (bm h i j).A) m r)).j = BY (bm h i j) m r := id rfl
theorem AX : (dZ (.t (cO (bm h i j) m r).B) (.t h.I) (.t (cO (bm h i j) m r).A) a (CP (.t (cO (bm h i j) m r).B) (.t h.I) (.t (cO (bm h i j) m r).A) a)).A = (p6 (cO (bm h i j) m r) a).A := id rfl
theorem Ao : (dZ (.t (cO (bm h i j) m r).B) (.t h.I) (.t (cO (bm h i j) m r).A) a (CP (.t (cO (bm h i j) m r).B) (.t h.I) (.t (cO (bm h i j) m r).A) a)).B = (p6 (cO (bm h i j) m r) a).B := id rfl
theorem rX : cc (row (.t h.B) a) 0 = h.key a := id rfl
end
theorem OI {h h' : HM} (v : gk h) (h0 : 0 < h.n) (m : ∀ x, h'.mem x ↔ (bm h 0 (h.n - 1)).mem x) (c : eF h') (hm : h.n - 1 < h.n) (e : h'.key (h.n - 1) = (bm h 0 (h.n - 1)).key (h.n - 1)) (hn : h'.n = h.n := by rfl) : h'.ob (h.n - 1) = h.ob 0 := by
 have hb := v.c.dJ.n; have q := c.k (h.n - 1) (by omega)
 obtain ⟨i, hi, r⟩ := (Bx h0 hm hb _).1 ((m _).1 ⟨h.n - 1, by omega, rfl⟩)
 rw [e, zU (by omega) (by omega), tX, <- r, v.c.k i hi] at q
 rw [<- r, v.c.d i 0 hi h0 q]
theorem Tx {d : Dv} : ∀ l : List Row, dL .s d l = dL .s (.s d.S) l
 | [] => rfl
 | x :: l => by
   show (bif KQ.s.eq _ d then _ else _) = (bif KQ.s.eq _ d then _ else _); rw [Tx l]
theorem XE {d : Dv} {l : List Row} : aP .s d l = aP .s (.s d.S) l := by
 unfold aP; rw [Tx l]
theorem afG {d : Dv} {I : Dv} : dM I d = dM I (.s d.S) := by
 unfold dM; rw [XE]
theorem KR {Q Q' : Nat -> Prop} {n : Nat} (h : ∀ j, j < n -> (Q j ↔ Q' j)) : gN Q n = gN Q' n := by
 have e : ∀ j, j < n -> (!dec (Q j)) = (!dec (Q' j)) := fun j hj => congrArg (fun P => !dec P) (propext (h j hj)); have ha : gN Q n <= n := ln; have hb : gN Q' n <= n := ln; rcases Nat.lt_trichotomy (gN Q n) (gN Q' n) with q | q | q
 ·have h1 : (!dec (Q (gN Q n))) = true := m8 (show stop (fun j => !dec (Q j)) n < n from Nat.lt_of_lt_of_le q hb); have h2 : (!dec (Q' (gN Q n))) = false := bP (show gN Q n < stop (fun j => !dec (Q' j)) n from q); rw [e _ (Nat.lt_of_lt_of_le q hb), h2] at h1; cases h1
 ·exact q
 ·have h1 : (!dec (Q' (gN Q' n))) = true := m8 (show stop (fun j => !dec (Q' j)) n < n from Nat.lt_of_lt_of_le q ha); have h2 : (!dec (Q (gN Q' n))) = false := bP (show gN Q' n < stop (fun j => !dec (Q j)) n from q); rw [<- e _ (Nat.lt_of_lt_of_le q ha), h2] at h1; cases h1
theorem S9 {l : Dv} : gN (qa (.t (l.T.map lk))) l.T.length = gN (qb l) l.T.length :=
 KR fun j hj => Kv hj
section
variable {o : Env}
theorem HT (hu : OU o) (hv : OV o) (hh : OH o) (hj : OJ o) {r : Nat} (hr : o.v 2207 = .i r) (hent : (CQ.aV 0).aB o) (hle : (r : Int) <= ((aH (.v 7780)).den o).I) {x : E} (hx : x.den o = .i r) : br o (hmG x) := by
 simp only [CQ, DA, cX, aH, pk, List.foldr, SS, implies_true, hj.hp, aw] at hent hle; obtain ⟨hf, hlen⟩ := hent; obtain ⟨gg, go, gl, gv, gr, gn, gb, gi, ga⟩ := rR hf r (by omega)
 simp only [hmG, al, av, and_true]
 and_intros
 all_goals intro h
 all_goals simp only [SS, implies_true, hr, hx, hh.all, hu.qE, hu.Lg, hu.JA, hu.Oq, hu.mr, hu.Ab, hu.JD, hv.QB, hv.KJ, hv.RU, hv.JI, hv.PQ, hj.hb, hj.hp, Dx, aw, da, Classical.not_not, QH, UC, PW, Qr, tnn, tni] at h ⊢
 all_goals have hl : r < (o.v 7780).T.length := by omega
 all_goals have hA := mJ hl
 all_goals have hS : dH (o.v 7780) (r + 1) = (bG (row (o.v 7780) r) (dH (o.v 7780) r)).1 := rfl
 all_goals obtain ⟨K, p2, p3⟩ := hf.1 r hl
 all_goals have K : Qf (cc (row (o.v 7780) r) 1) (cc (row (o.v 7780) r) 2) (cc (row (o.v 7780) r) 5) := K
 all_goals generalize dH (o.v 7780) r = s at *
 all_goals generalize row (o.v 7780) r = p at *
 all_goals try simp only [acq, aaU, oV, aeM, adq, Z0, aeu, ZX, aa6, ZF, aaR, acw] at h ⊢
 ·rw [Qp (by omega) h.1] at hA hS; rw [hA, hS]
  exact ⟨K, K, rfl, rfl, rfl, rfl, rfl, rfl, rfl, rfl, List.Perm.refl _, rfl, rfl⟩
 ·rw [Jm (by omega) h.2.1, if_pos h.1] at hA hS; rw [hA, hS]
  exact ⟨K, K, rfl, rfl, rfl, rfl, rfl, rfl, rfl, rfl, List.Perm.refl _, rfl, rfl⟩
 ·obtain ⟨hx, hh2, hcl, hgd, h1, _⟩ := h; have hc : jr (dK p) (.s (bj p)) := mP hgd K; have hset := pR gv.c hh2 hc; have hnn := GS gv.c hh2; obtain ⟨_, _, _, _, _, _, j0, j1⟩ := ow gv hh2 hc
  have e1 : fv s.h (.s (bj p)) (dK p) = cO (bc s.h (.s (bj p)) (dK p)) s.h.n (gq (bc s.h (.s (bj p)) (dK p)) (.s (bj p))).toNat := by
   rw [BQ hh2]; unfold fo gx; rw [if_pos]; exact (Int.toNat_lt j0).2 hx
  rw [Jm (by omega) hgd, if_neg (by rw [hcl]; exact fun q => by cases q), show fv s.h (im p) (dK p) = _ from e1] at hA hS; rw [hA, hS]
  have hin2 := hset.dJ; have hu2 := rP gv hh2 hc; have ul : (bc s.h (.s (bj p)) (dK p)).A.length = s.h.A.length := List.length_set ..
  repeat' refine And.intro ?_ ?_
  all_goals first
   | rfl
   | omega
   | assumption
   | exact List.Perm.refl _
   | exact bo gv.c.u
   | trivial
   | exact K.1
   | exact K.2.1
   | exact K.2.2
   | exact hbn2.symm
   | exact gg.i
   | exact gg.g
 ·obtain ⟨hx, hh2, hcl, hgd, h1, _⟩ := h; have hc : jr (dK p) (.s (bj p)) := mP hgd K; have hset := pR gv.c hh2 hc; have hnn := GS gv.c hh2; obtain ⟨_, _, _, _, _, _, j0, j1⟩ := ow gv hh2 hc
  have e1 : fv s.h (.s (bj p)) (dK p) = p6 (cO (bc s.h (.s (bj p)) (dK p)) s.h.n (gq (bc s.h (.s (bj p)) (dK p)) (.s (bj p))).toNat) (gq (bc s.h (.s (bj p)) (dK p)) (.s (bj p))).toNat := by
   rw [BQ hh2]; unfold fo gx; rw [if_neg]; exact fun q => hx ((Int.toNat_lt j0).1 q)
  rw [Jm (by omega) hgd, if_neg (by rw [hcl]; exact fun q => by cases q), show fv s.h (im p) (dK p) = _ from e1] at hA hS; rw [hA, hS]
  have hin2 := hset.dJ; have hu2 := rP gv hh2 hc; have hin3 := hu2.c.dJ; have ul : (bc s.h (.s (bj p)) (dK p)).A.length = s.h.A.length := List.length_set ..; have ul2 := hu2.l; have ub2 : (cO (bc s.h (.s (bj p)) (dK p)) s.h.n (gq (bc s.h (.s (bj p)) (dK p)) (.s (bj p))).toNat).B.length = s.h.B.length := hu2.b
  repeat' refine And.intro ?_ ?_
  all_goals first
   | rfl
   | omega
   | assumption
   | exact List.Perm.refl _
   | exact bo gv.c.u
   | trivial
   | exact K.1
   | exact K.2.1
   | exact K.2.2
   | exact hbn2.symm
   | exact gg.i
   | exact gg.g
 ·obtain ⟨hh2, hcl, hgd, h1, _⟩ := h; have hc : jr (dK p) (.s (bj p)) := mP hgd K
  have e1 : fv s.h (.s (bj p)) (dK p) = p6 (bV s.h (.s (bj p)) (dK p)) s.h.n := by
   rw [Ih hh2]; rfl
  rw [Jm (by omega) hgd, if_neg (by rw [hcl]; exact fun q => by cases q), show fv s.h (im p) (dK p) = _ from e1] at hA hS; rw [hA, hS]
  have hin2 := (rn gv.c hh2 hc).dJ; have hbn := gv.c.dJ.n; have htk : (List.take s.h.n s.h.B).length <= s.h.n := by rw [List.length_take]; omega
  repeat' refine And.intro ?_ ?_
  all_goals first
   | rfl
   | omega
   | assumption
   | exact List.Perm.refl _
   | exact bo gv.c.u
   | trivial
   | exact K.1
   | exact K.2.1
   | exact K.2.2
   | exact hbn2.symm
   | exact gg.i
   | exact gg.g
 ·rw [XG (by omega), if_pos h.1] at hA hS; rw [hA, hS]
  repeat' refine And.intro ?_ ?_
  all_goals first
   | rfl
   | omega
   | assumption
   | exact List.Perm.refl _
   | exact bo gv.c.u
   | trivial
   | exact K.1
   | exact K.2.1
   | exact K.2.2
   | exact hbn2.symm
   | exact gg.i
   | exact gg.g
 ·have e1 : ¬ dec (ep (qb (cc p 9)) (cc p 9).T.length) = true := fun q => h.1 (Lc.2 (aw.1 q)); rw [XG (by omega), if_neg (by rw [h.2.1]; exact fun q => by cases q), if_neg e1] at hA hS; rw [hA, hS]
  have e2 := GZ p2; have e3 : gk ⟨s.h.B, s.h.n, s.h.I, s.h.A⟩ := gv; simp only [S9, List.length_map]
  repeat' refine And.intro ?_ ?_
  all_goals first
   | rfl
   | omega
   | assumption
   | exact List.Perm.refl _
   | exact bo gv.c.u
   | trivial
   | exact K.1
   | exact K.2.1
   | exact K.2.2
   | exact hbn2.symm
   | exact gg.i
   | exact gg.g
 ·have e1 : dec (ep (qb (cc p 9)) (cc p 9).T.length) = true := aw.2 (Lc.1 h.1); rw [XG (by omega), if_neg (by rw [h.2.1]; exact fun q => by cases q), if_pos e1] at hA hS; rw [hA, hS]
  have e2 := GZ p2; have e3 : gk ⟨s.h.B, s.h.n, s.h.I, s.h.A⟩ := gv; simp only [S9, List.length_map]
  repeat' refine And.intro ?_ ?_
  all_goals first
   | rfl
   | omega
   | assumption
   | exact List.Perm.refl _
   | exact bo gv.c.u
   | trivial
   | exact K.1
   | exact K.2.1
   | exact K.2.2
   | exact hbn2.symm
   | exact gg.i
   | exact gg.g
 ·rw [Qp (by omega) h.1] at hA hS; rw [hA, hS]
  exact ⟨K, K, rfl, rfl, rfl, rfl, rfl, rfl, rfl, rfl, List.Perm.refl _, rfl, rfl⟩
 ·rw [Ye (by omega) h.2.1, if_pos h.1] at hA hS; rw [hA, hS]
  exact ⟨K, K, rfl, rfl, rfl, rfl, rfl, rfl, rfl, rfl, List.Perm.refl _, rfl, rfl⟩
 ·rw [Ye (by omega) h.2.2.1, if_neg (by rw [h.2.1]; exact fun q => by cases q), if_pos ((eT gg gr gv).1 h.1)] at hA hS; rw [hA, hS]
  exact ⟨K, K, rfl, rfl, rfl, rfl, rfl, rfl, rfl, rfl, List.Perm.refl _, rfl, rfl⟩
 ·obtain ⟨hh2, hcl, hgd, h1, _⟩ := h; have hc : jr (dK p) (.s (bj p)) := mP hgd K; have e1 : jH s.h (.s (bj p)) (dK p) = p6 (bV s.h (.s (bj p)) (dK p)) s.h.n := rfl; rw [Ye (by omega) hgd, if_neg (by rw [hcl]; exact fun q => by cases q), if_neg fun q => hh2 ((eT gg gr gv).2 q), show jH s.h (im p) (dK p) = _ from e1] at hA hS; rw [hA, hS]
  have hin2 := (rn gv.c hh2 hc).dJ; have hbn := gv.c.dJ.n; have htk : (List.take s.h.n s.h.B).length <= s.h.n := by rw [List.length_take]; omega
  repeat' refine And.intro ?_ ?_
  all_goals first
   | rfl
   | omega
   | assumption
   | exact List.Perm.refl _
   | exact bo gv.c.u
   | trivial
   | exact K.1
   | exact K.2.1
   | exact K.2.2
   | exact hbn2.symm
   | exact gg.i
   | exact gg.g
 ·rw [Qp (by omega) h.1] at hA hS; rw [hA, hS]
  exact ⟨K, K, rfl, rfl, rfl, rfl, rfl, rfl, rfl, rfl, List.Perm.refl _, rfl, rfl⟩
 ·obtain ⟨h1, h2, h3, hgd, h4, _⟩ := h; have q := (eT gg gr gv).1 h3; obtain ⟨i, hi, e1, e2, e3, e4, e5, e6⟩ := get_at gg gr gv q; have hm1 : ((s.h.n : Int) - 1).toNat = s.h.n - 1 := by omega
  have eo : jf s.h (gq s.h (im p)).toNat = dQ s.h (s.h.n - 1) := by
   unfold jf; rw [if_pos]; show (gq s.h (.s (bj p))).toNat = _; omega
  rw [RJ (by omega) hgd, if_pos q, eo] at hA hS; rw [hA, hS]
  rw [hm1]; have x1 := gv.c.dJ.i (s.h.n - 1) (by omega)
  have hbn := gv.c.dJ.n; have hbn2 : ((s.h.n - 1 : Nat) : Int) = (s.h.n : Int) - 1 := by omega
  repeat' refine And.intro ?_ ?_
  all_goals first
   | rfl
   | omega
   | assumption
   | exact List.Perm.refl _
   | exact bo gv.c.u
   | trivial
   | exact K.1
   | exact K.2.1
   | exact K.2.2
   | exact hbn2.symm
   | exact gg.i
   | exact gg.g
 ·exfalso; obtain ⟨h1, h2, h3, _⟩ := h; obtain ⟨i, hi, _⟩ := get_at gg gr gv ((eT gg gr gv).1 h3); exact h1 (gv.c.dJ.k _ (by omega))
 ·have hk := (eT gg gr gv).1 (show 0 <= aP KQ.s (Dv.s (bj p)) s.h.I by first | exact h.2.2.2.2.1 | exact h.2.2.2.2.2.1 | exact h.2.2.2.1)
  obtain ⟨i, hi, e1, e2, e3, e4, e5, e6⟩ := get_at gg gr gv hk; have hm1 : (s.h.n : Int) - 1 = ((s.h.n - 1 : Nat) : Int) := by omega
  have ec : cc (row (.t s.h.A) (dM (.t s.h.I) (.s (bj p))).toNat) 1 = .i (i : Int) := by rw [<- e3]; exact gv.c.p i hi
  simp only [e1, hm1, ec, Int.toNat_natCast, yB] at h ⊢; simp only [yC, Jw] at h ⊢; simp only [Ar, A1, Bp, AX, Ao, rX, oV] at h ⊢; obtain ⟨h1, h2, h3, h4, h5, h6, hgd, h7, _⟩ := h; have hbn := gv.c.dJ.n; have hne : i ≠ s.h.n - 1 := fun q => h5 (by rw [q])
  have hm : s.h.n - 1 < s.h.n := by omega
  have c := fu gv.c hi hm; have hb : s.h.n - 1 < s.h.B.length := by omega
  have hpd : cz kg (bm s.h i (s.h.n - 1)).ob (s.h.n - 1) i := by
   rw [jo (by omega) hb]
   refine dA jV ?_ (by omega)
   rw [show s.h.n - 1 + 1 = s.h.n by omega]
   exact gv.hp
  obtain ⟨u, _⟩ := iL c (j := i) (m := s.h.n - 1) hi (by show s.h.n - 1 <= s.h.n; omega) hpd
  have x1 := c.dJ.i (s.h.n - 1) hm; have x2 := c.dJ.i i hi; have x3 := u.c.dJ.i (s.h.n - 1) (by rw [u.n]; exact hm)
  have x4 : (cO (bm s.h i (s.h.n - 1)) (s.h.n - 1) i).B.length = s.h.B.length := u.b.trans fm
  have eo : jf s.h (gq s.h (im p)).toNat = dQ (cO (bm s.h i (s.h.n - 1)) (s.h.n - 1) i) (s.h.n - 1) := by
   rw [show gq s.h (im p) = i from e1, Int.toNat_natCast]; unfold jf gx; rw [if_neg hne, if_pos (by omega)]
  rw [RJ (by omega) hgd, if_pos hk, eo] at hA hS; rw [hA, hS]
  repeat' refine And.intro ?_ ?_
  all_goals first
   | rfl
   | omega
   | assumption
   | exact x1
   | exact x2
   | exact x3
   | exact c.dJ
   | exact List.Perm.refl _
   | trivial
   | exact K.1
   | exact K.2.1
   | exact K.2.2
 ·exfalso; have hd := h; have hk := (eT gg gr gv).1 (show 0 <= aP KQ.s (Dv.s (bj p)) s.h.I by first | exact h.2.2.2.2.1 | exact h.2.2.2.2.2.1 | exact h.2.2.2.1)
  obtain ⟨i, hi, e1, e2, e3, e4, e5, e6⟩ := get_at gg gr gv hk; have hm1 : (s.h.n : Int) - 1 = ((s.h.n - 1 : Nat) : Int) := by omega
  have ec : cc (row (.t s.h.A) (dM (.t s.h.I) (.s (bj p))).toNat) 1 = .i (i : Int) := by rw [<- e3]; exact gv.c.p i hi
  simp only [e1, hm1, ec, Int.toNat_natCast, yB] at h ⊢; simp only [yC, Jw] at h ⊢
  try simp only [Ar, A1, Bp, AX, Ao, rX, oV] at h ⊢
  have hbn := gv.c.dJ.n; have hm : s.h.n - 1 < s.h.n := by omega
  have c := fu gv.c hi hm; have hb : s.h.n - 1 < s.h.B.length := by omega
  have hpd : cz kg (bm s.h i (s.h.n - 1)).ob (s.h.n - 1) i := by
   rw [jo (by omega) hb]
   refine dA jV ?_ (by omega)
   rw [show s.h.n - 1 + 1 = s.h.n by omega]
   exact gv.hp
  obtain ⟨u, pu, _, pj⟩ := iL c (j := i) (m := s.h.n - 1) hi (by show s.h.n - 1 <= s.h.n; omega) hpd
  obtain ⟨h1, h2, h3, h4, h5, _⟩ := h; have hne : i ≠ s.h.n - 1 := fun q => h5 (by rw [q])
  have x0 := c.dJ.k (s.h.n - 1) hm
  first
   | exact h1 (u.c.dJ.k (s.h.n - 1) (by rw [u.n]; exact hm))
   | exact h1 x0
 ·have hd := h; have hk := (eT gg gr gv).1 (show 0 <= aP KQ.s (Dv.s (bj p)) s.h.I by first | exact h.2.2.2.2.1 | exact h.2.2.2.2.2.1 | exact h.2.2.2.1)
  obtain ⟨i, hi, e1, e2, e3, e4, e5, e6⟩ := get_at gg gr gv hk; have hm1 : (s.h.n : Int) - 1 = ((s.h.n - 1 : Nat) : Int) := by omega
  have ec : cc (row (.t s.h.A) (dM (.t s.h.I) (.s (bj p))).toNat) 1 = .i (i : Int) := by rw [<- e3]; exact gv.c.p i hi
  simp only [e1, hm1, ec, Int.toNat_natCast, yB] at h ⊢; simp only [yC, Jw] at h ⊢
  try simp only [Ar, A1, Bp, AX, Ao, rX, oV] at h ⊢
  have hbn := gv.c.dJ.n; have hm : s.h.n - 1 < s.h.n := by omega
  have c := fu gv.c hi hm; have hb : s.h.n - 1 < s.h.B.length := by omega
  have hpd : cz kg (bm s.h i (s.h.n - 1)).ob (s.h.n - 1) i := by
   rw [jo (by omega) hb]
   refine dA jV ?_ (by omega)
   rw [show s.h.n - 1 + 1 = s.h.n by omega]
   exact gv.hp
  obtain ⟨u, pu, _, pj⟩ := iL c (j := i) (m := s.h.n - 1) hi (by show s.h.n - 1 <= s.h.n; omega) hpd
  obtain ⟨h1, h2, h3, h4, h5, h6, hgd, h7, _⟩ := h; have hne : i ≠ s.h.n - 1 := fun q => h5 (by rw [q])
  have hni : ¬ i < BY (bm s.h i (s.h.n - 1)) (s.h.n - 1) i := by omega
  have pu2 := pu; rw [pj hni] at pu2; obtain ⟨w, _⟩ := Bq u.c (j := i) (m := s.h.n - 1) (by omega) (by rw [u.n]; show s.h.n - 1 <= s.h.n; omega) pu2
  have x1 := c.dJ.i (s.h.n - 1) hm; have x2 := c.dJ.i i hi; have x3 := w.c.dJ.i (s.h.n - 1) (by rw [w.n, u.n]; exact hm)
  have x4 : (p6 (cO (bm s.h i (s.h.n - 1)) (s.h.n - 1) i) i).B.length = s.h.B.length := w.b.trans (u.b.trans fm); have x5 : (cO (bm s.h i (s.h.n - 1)) (s.h.n - 1) i).B.length = s.h.B.length := u.b.trans fm; have x6 : (cO (bm s.h i (s.h.n - 1)) (s.h.n - 1) i).A.length = s.h.A.length := u.l.trans jY; have x7 := u.c.dJ
  have eo : jf s.h (gq s.h (im p)).toNat = dQ (p6 (cO (bm s.h i (s.h.n - 1)) (s.h.n - 1) i) i) (s.h.n - 1) := by
   rw [show gq s.h (im p) = i from e1, Int.toNat_natCast]; unfold jf gx; rw [if_neg hne, if_neg (by omega)]
  rw [RJ (by omega) hgd, if_pos hk, eo] at hA hS; rw [hA, hS]
  repeat' refine And.intro ?_ ?_
  all_goals first
   | rfl
   | omega
   | assumption
   | exact x1
   | exact x2
   | exact x3
   | exact x7
   | exact c.dJ
   | exact List.Perm.refl _
   | trivial
   | exact K.1
   | exact K.2.1
   | exact K.2.2
 ·exfalso; have hk := (eT gg gr gv).1 (show 0 <= aP KQ.s (Dv.s (bj p)) s.h.I by first | exact h.2.2.2.2.1 | exact h.2.2.2.2.2.1 | exact h.2.2.2.1)
  obtain ⟨i, hi, e1, e2, e3, e4, e5, e6⟩ := get_at gg gr gv hk; have hm1 : (s.h.n : Int) - 1 = ((s.h.n - 1 : Nat) : Int) := by omega
  have ec : cc (row (.t s.h.A) (dM (.t s.h.I) (.s (bj p))).toNat) 1 = .i (i : Int) := by rw [<- e3]; exact gv.c.p i hi
  simp only [e1, hm1, ec, Int.toNat_natCast, yB] at h ⊢; simp only [yC, Jw] at h ⊢
  try simp only [Ar, A1, Bp, AX, Ao, rX, oV] at h ⊢
  have hbn := gv.c.dJ.n; have hm : s.h.n - 1 < s.h.n := by omega
  have c := fu gv.c hi hm; have hb : s.h.n - 1 < s.h.B.length := by omega
  have hpd : cz kg (bm s.h i (s.h.n - 1)).ob (s.h.n - 1) i := by
   rw [jo (by omega) hb]
   refine dA jV ?_ (by omega)
   rw [show s.h.n - 1 + 1 = s.h.n by omega]
   exact gv.hp
  obtain ⟨u, pu, _, pj⟩ := iL c (j := i) (m := s.h.n - 1) hi (by show s.h.n - 1 <= s.h.n; omega) hpd
  obtain ⟨h1, h2, h3, h4, h5, _⟩ := h; have hne : i ≠ s.h.n - 1 := fun q => h5 (by rw [q])
  have hni : ¬ i < BY (bm s.h i (s.h.n - 1)) (s.h.n - 1) i := by omega
  have pu2 := pu; rw [pj hni] at pu2; obtain ⟨w, _⟩ := Bq u.c (j := i) (m := s.h.n - 1) (by omega) (by rw [u.n]; show s.h.n - 1 <= s.h.n; omega) pu2
  exact h1 (w.c.dJ.k (s.h.n - 1) (by rw [w.n, u.n]; exact hm))
 ·have hd := h; exfalso; have hk := (eT gg gr gv).1 (show 0 <= aP KQ.s (Dv.s (bj p)) s.h.I by first | exact h.2.2.2.2.1 | exact h.2.2.2.2.2.1 | exact h.2.2.2.1)
  obtain ⟨i, hi, e1, e2, e3, e4, e5, e6⟩ := get_at gg gr gv hk; have hm1 : (s.h.n : Int) - 1 = ((s.h.n - 1 : Nat) : Int) := by omega
  have ec : cc (row (.t s.h.A) (dM (.t s.h.I) (.s (bj p))).toNat) 1 = .i (i : Int) := by rw [<- e3]; exact gv.c.p i hi
  simp only [e1, hm1, ec, Int.toNat_natCast, yB] at h ⊢; simp only [yC, Jw] at h ⊢
  try simp only [Ar, A1, Bp, AX, Ao, rX, oV] at h ⊢
  have hbn := gv.c.dJ.n; have hm : s.h.n - 1 < s.h.n := by omega
  have c := fu gv.c hi hm; have hb : s.h.n - 1 < s.h.B.length := by omega
  have hpd : cz kg (bm s.h i (s.h.n - 1)).ob (s.h.n - 1) i := by
   rw [jo (by omega) hb]
   refine dA jV ?_ (by omega)
   rw [show s.h.n - 1 + 1 = s.h.n by omega]
   exact gv.hp
  obtain ⟨u, pu, _, pj⟩ := iL c (j := i) (m := s.h.n - 1) hi (by show s.h.n - 1 <= s.h.n; omega) hpd
  obtain ⟨h1, h2, _⟩ := h; exact h1 (c.dJ.k (s.h.n - 1) hm)
 ·have hd := h; exfalso; have hk := (eT gg gr gv).1 (show 0 <= aP KQ.s (Dv.s (bj p)) s.h.I from h.2.2.1); obtain ⟨i, hi, e1, e2, e3, e4, e5, e6⟩ := get_at gg gr gv hk; have hm1 : (s.h.n : Int) - 1 = ((s.h.n - 1 : Nat) : Int) := by omega
  have ec : cc (row (.t s.h.A) (dM (.t s.h.I) (.s (bj p))).toNat) 1 = .i (i : Int) := by rw [<- e3]; exact gv.c.p i hi
  simp only [e1, hm1, ec, Int.toNat_natCast, yB] at h ⊢
  try simp only [yC, Jw] at h ⊢
  have hbn := gv.c.dJ.n; have hm : s.h.n - 1 < s.h.n := by omega
  have c := fu gv.c hi hm; have hb : s.h.n - 1 < s.h.B.length := by omega
  have hpd : cz kg (bm s.h i (s.h.n - 1)).ob (s.h.n - 1) i := by
   rw [jo (by omega) hb]
   refine dA jV ?_ (by omega)
   rw [show s.h.n - 1 + 1 = s.h.n by omega]
   exact gv.hp
  obtain ⟨u, pu, _, pj⟩ := iL c (j := i) (m := s.h.n - 1) hi (by show s.h.n - 1 <= s.h.n; omega) hpd
  obtain ⟨h1, h2, _⟩ := h; exact h1 (c.dJ.k i hi)
 ·rw [RJ (by omega) h.2.1, if_neg fun q => h.1 ((eT gg gr gv).2 q)] at hA hS; rw [hA, hS]
  repeat' refine And.intro ?_ ?_
  all_goals first
   | rfl
   | omega
   | assumption
   | exact List.Perm.refl _
   | exact bo gv.c.u
   | trivial
   | exact K.1
   | exact K.2.1
   | exact K.2.2
   | exact hbn2.symm
   | exact gg.i
   | exact gg.g
 ·have hz : s.S = [] := (lI gr).2 (by omega)
  rw [Fa (by omega), if_pos hz, if_pos h.2.1] at hA hS; rw [hA, hS]
  have e1 : eL (List.map dg s.h.I) = s.S.map bW := eu gg gr gv; have e2 : s.h.I.length = s.S.length := jQ gg gr gv; have e3 : List.take s.S.length (s.S.map bW) = s.S.map bW := e8 (by rw [List.length_map]; exact Nat.le_refl _)
  simp only [e1, e2, e3, List.length_map] at h ⊢
  repeat' refine And.intro ?_ ?_
  all_goals first
   | rfl
   | omega
   | assumption
   | exact List.Perm.refl _
   | exact bo gv.c.u
   | trivial
   | exact K.1
   | exact K.2.1
   | exact K.2.2
   | exact hbn2.symm
   | exact gg.i
   | exact gg.g
 ·exfalso; obtain ⟨_, _, _, h4, _, h6, _⟩ := h; have e1 : eL (List.map dg s.h.I) = s.S.map bW := eu gg gr gv; have e2 : s.h.I.length = s.S.length := jQ gg gr gv; rw [e1, e2, List.length_take, List.length_map, Nat.min_self] at h6; have hz : s.S = [] := List.length_eq_zero_iff.1 (by omega)
  have := (lI gr).1 hz; omega
 ·exfalso; obtain ⟨_, _, _, h4, _, h6, _⟩ := h; have e1 : eL (List.map dg s.h.I) = s.S.map bW := eu gg gr gv; have e2 : s.h.I.length = s.S.length := jQ gg gr gv; rw [e1, e2, List.length_take, List.length_map, Nat.min_self] at h6; have hz : s.S = [] := List.length_eq_zero_iff.1 (by omega)
  have := (lI gr).1 hz; omega
 ·exfalso; obtain ⟨_, _, h4, _, h6, _⟩ := h; have e1 : eL (List.map dg s.h.I) = s.S.map bW := eu gg gr gv; have e2 : s.h.I.length = s.S.length := jQ gg gr gv; rw [e1, e2, List.length_take, List.length_map, Nat.min_self] at h6; have hz : s.S = [] := List.length_eq_zero_iff.1 (by omega)
  have := (lI gr).1 hz; omega
 ·exfalso; obtain ⟨_, h4, _, h6, _⟩ := h; have e1 : eL (List.map dg s.h.I) = s.S.map bW := eu gg gr gv; have e2 : s.h.I.length = s.S.length := jQ gg gr gv; rw [e1, e2, List.length_take, List.length_map, Nat.min_self] at h6; have hz : s.S = [] := List.length_eq_zero_iff.1 (by omega)
  have := (lI gr).1 hz; omega
 ·have hd := h; have e1 : eL (List.map dg s.h.I) = s.S.map bW := eu gg gr gv; have e2 : s.h.I.length = s.S.length := jQ gg gr gv; have e3 : List.take s.S.length (s.S.map bW) = s.S.map bW := e8 (by rw [List.length_map]; exact Nat.le_refl _)
  simp only [e1, e2, e3, List.length_map] at h ⊢; have hz : s.S = [] := List.length_eq_zero_iff.1 (by omega)
  have hc : ¬ s.c = true := by rw [h.1]; exact fun q => by cases q
  rw [Fa (by omega), if_pos hz, if_neg hc] at hA hS; rw [hA, hS]
  repeat' refine And.intro ?_ ?_
  all_goals first
   | rfl
   | omega
   | assumption
   | exact List.Perm.refl _
   | exact bo gv.c.u
   | trivial
   | exact K.1
   | exact K.2.1
   | exact K.2.2
   | exact hbn2.symm
   | exact gg.i
   | exact gg.g
 ·exfalso; have e1 : eL (List.map dg s.h.I) = s.S.map bW := eu gg gr gv; have hz : s.S = [] := (lI gr).2 (by omega)
  have h2 := h.2.1; rw [e1, hz] at h2; exact h2 (by simp)
 ·have hd := h; have h0 : 0 < s.h.n := by omega
  have hm1 : (s.h.n : Int) - 1 = ((s.h.n - 1 : Nat) : Int) := by omega
  simp only [hm1, Int.toNat_natCast, yB] at h ⊢; simp only [yC, Io] at h ⊢
  try simp only [Ar, A1, Bp, AX, Ao, rX, oV] at h ⊢
  have hbn := gv.c.dJ.n; have hm : s.h.n - 1 < s.h.n := by omega
  have c := fu gv.c h0 hm; have hb : s.h.n - 1 < s.h.B.length := by omega
  have hpd : cz kg (bm s.h 0 (s.h.n - 1)).ob (s.h.n - 1) 0 := by
   rcases Nat.eq_zero_or_pos (s.h.n - 1) with q | q
   ·rw [q]; exact ⟨fun k k0 kn => by omega, fun q => absurd q (Nat.lt_irrefl _)⟩
   ·rw [jo (by omega) hb]
    refine dA jV ?_ q; rw [show s.h.n - 1 + 1 = s.h.n by omega]
    exact gv.hp
  obtain ⟨u, pu, _, pj⟩ := iL c (j := 0) (m := s.h.n - 1) h0 (by show s.h.n - 1 <= s.h.n; omega) hpd
  have ho := OI gv h0 u.m u.c hm (uY (j := 0) (m := s.h.n - 1) (by show s.h.n - 1 <= (zg s.h.B 0 (s.h.n - 1)).length; rw [fm]; omega) _ _ (Nat.le_refl _) (Nat.le_refl _))
  have hz : s.S ≠ [] := fun q => h.2.2.2.1 (by have := (lI gr).1 q; omega)
  obtain ⟨pa, pb, pc⟩ := LO gv h0; obtain ⟨ra, rb⟩ := xU gg gr gv h0 pc; have x1 := c.dJ.i (s.h.n - 1) hm; have x2 := c.dJ.i 0 h0; have x3 := u.c.dJ.i (s.h.n - 1) (by rw [u.n]; exact hm)
  have x4 : (cO (bm s.h 0 (s.h.n - 1)) (s.h.n - 1) 0).B.length = s.h.B.length := u.b.trans fm; have x5 : (cO (bm s.h 0 (s.h.n - 1)) (s.h.n - 1) 0).A.length = s.h.A.length := u.l.trans jY; have x6 : iD ((cO (bm s.h 0 (s.h.n - 1)) (s.h.n - 1) 0).ob (s.h.n - 1)) := by rw [ho]; exact gv.c.dJ.o 0 h0
  have x7 : eight ((cO (bm s.h 0 (s.h.n - 1)) (s.h.n - 1) 0).ob (s.h.n - 1)) = row (.t s.S) (ct (.t s.S) s.S.length) := by rw [ho]; exact ra
  rw [Fa (by omega), if_neg hz, <- x7] at hA hS; rw [hA, hS]
  have e1 : eL (List.map dg s.h.I) = s.S.map bW := eu gg gr gv; have e2 : s.h.I.length = s.S.length := jQ gg gr gv; have e3 : List.take s.S.length (s.S.map bW) = s.S.map bW := e8 (by rw [List.length_map]; exact Nat.le_refl _)
  simp only [e1, e2, e3, List.length_map] at h ⊢; have x8 : (decide (0 < (s.h.n : Int)) || s.c) = true := by rw [decide_eq_true (show 0 < (s.h.n : Int) by omega)]; rfl
  repeat' refine And.intro ?_ ?_
  all_goals first
   | rfl
   | omega
   | assumption
   | exact x6.1
   | exact x6.2.1
   | exact x6.2.2
   | exact bo gv.c.u
   | exact x1
   | exact x2
   | exact x3
   | exact x6
   | exact c.dJ
   | exact u.c.dJ
   | exact List.Perm.refl _
   | trivial
   | exact K.1
   | exact K.2.1
   | exact K.2.2
 ·exfalso; have h0 : 0 < s.h.n := by omega
  have hm1 : (s.h.n : Int) - 1 = ((s.h.n - 1 : Nat) : Int) := by omega
  simp only [hm1, Int.toNat_natCast, yB] at h ⊢; simp only [yC, Io] at h ⊢
  try simp only [Ar, A1, Bp, AX, Ao, rX, oV] at h ⊢
  have hbn := gv.c.dJ.n; have hm : s.h.n - 1 < s.h.n := by omega
  have c := fu gv.c h0 hm; have hb : s.h.n - 1 < s.h.B.length := by omega
  have hpd : cz kg (bm s.h 0 (s.h.n - 1)).ob (s.h.n - 1) 0 := by
   rcases Nat.eq_zero_or_pos (s.h.n - 1) with q | q
   ·rw [q]; exact ⟨fun k k0 kn => by omega, fun q => absurd q (Nat.lt_irrefl _)⟩
   ·rw [jo (by omega) hb]
    refine dA jV ?_ q; rw [show s.h.n - 1 + 1 = s.h.n by omega]
    exact gv.hp
  obtain ⟨u, pu, _, pj⟩ := iL c (j := 0) (m := s.h.n - 1) h0 (by show s.h.n - 1 <= s.h.n; omega) hpd
  exact h.1 (u.c.dJ.k (s.h.n - 1) (by rw [u.n]; exact hm))
 ·exfalso; have h0 : 0 < s.h.n := by omega
  have hm1 : (s.h.n : Int) - 1 = ((s.h.n - 1 : Nat) : Int) := by omega
  simp only [hm1, Int.toNat_natCast, yB] at h ⊢; simp only [yC, Io] at h ⊢
  try simp only [Ar, A1, Bp, AX, Ao, rX, oV] at h ⊢
  have hbn := gv.c.dJ.n; have hm : s.h.n - 1 < s.h.n := by omega
  have c := fu gv.c h0 hm; have hb : s.h.n - 1 < s.h.B.length := by omega
  have hpd : cz kg (bm s.h 0 (s.h.n - 1)).ob (s.h.n - 1) 0 := by
   rcases Nat.eq_zero_or_pos (s.h.n - 1) with q | q
   ·rw [q]; exact ⟨fun k k0 kn => by omega, fun q => absurd q (Nat.lt_irrefl _)⟩
   ·rw [jo (by omega) hb]
    refine dA jV ?_ q; rw [show s.h.n - 1 + 1 = s.h.n by omega]
    exact gv.hp
  obtain ⟨u, pu, _, pj⟩ := iL c (j := 0) (m := s.h.n - 1) h0 (by show s.h.n - 1 <= s.h.n; omega) hpd
  exact h.1 (c.dJ.k (s.h.n - 1) hm)
 ·exfalso; have h0 : 0 < s.h.n := by omega
  have hm1 : (s.h.n : Int) - 1 = ((s.h.n - 1 : Nat) : Int) := by omega
  simp only [hm1, Int.toNat_natCast, yB] at h ⊢; simp only [yC, Io] at h ⊢
  try simp only [Ar, A1, Bp, AX, Ao, rX, oV] at h ⊢
  have hbn := gv.c.dJ.n; have hm : s.h.n - 1 < s.h.n := by omega
  have c := fu gv.c h0 hm; have hb : s.h.n - 1 < s.h.B.length := by omega
  have hpd : cz kg (bm s.h 0 (s.h.n - 1)).ob (s.h.n - 1) 0 := by
   rcases Nat.eq_zero_or_pos (s.h.n - 1) with q | q
   ·rw [q]; exact ⟨fun k k0 kn => by omega, fun q => absurd q (Nat.lt_irrefl _)⟩
   ·rw [jo (by omega) hb]
    refine dA jV ?_ q; rw [show s.h.n - 1 + 1 = s.h.n by omega]
    exact gv.hp
  obtain ⟨u, pu, _, pj⟩ := iL c (j := 0) (m := s.h.n - 1) h0 (by show s.h.n - 1 <= s.h.n; omega) hpd
  exact h.1 (c.dJ.k 0 h0)
 ·rw [NC (by omega)] at hA hS; rw [hA, hS]
  have e4 := Kb gg gr gv; have e5 := PB gg gr gv
  have e6 : (SM (.t (s.S.map bW)) (.t s.h.I) (.t s.h.A)).length = s.S.length := by
   have := congrArg List.length e4; rwa [List.length_map] at this
  have e7 := gg.afJ; have e1 : eL (List.map dg s.h.I) = s.S.map bW := eu gg gr gv; have e2 : s.h.I.length = s.S.length := jQ gg gr gv; have e3 : List.take s.S.length (s.S.map bW) = s.S.map bW := e8 (by rw [List.length_map]; exact Nat.le_refl _)
  simp only [e1, e2, e3, List.length_map] at h ⊢; simp only [e4, e6]
  repeat' refine And.intro ?_ ?_
  all_goals first
   | rfl
   | omega
   | assumption
   | exact List.Perm.refl _
   | exact bo gv.c.u
   | trivial
   | exact K.1
   | exact K.2.1
   | exact K.2.2
   | exact hbn2.symm
   | exact gg.i
   | exact gg.g
 ·rw [afN (by omega)] at hA hS; rw [hA, hS]
  have e7 := zi gg.i; have e1 : eL (List.map dg s.h.I) = s.S.map bW := eu gg gr gv; have e2 : s.h.I.length = s.S.length := jQ gg gr gv; have e3 : List.take s.S.length (s.S.map bW) = s.S.map bW := e8 (by rw [List.length_map]; exact Nat.le_refl _)
  simp only [e1, e2, e3, List.length_map] at h ⊢; simp only [e7]
  repeat' refine And.intro ?_ ?_
  all_goals first
   | rfl
   | omega
   | assumption
   | exact List.Perm.refl _
   | exact bo gv.c.u
   | trivial
   | exact K.1
   | exact K.2.1
   | exact K.2.2
   | exact hbn2.symm
   | exact gg.i
   | exact gg.g
 ·rw [Qp (by omega) h.1] at hA hS; rw [hA, hS]
  repeat' refine And.intro ?_ ?_
  all_goals first
   | rfl
   | omega
   | assumption
   | exact List.Perm.refl _
   | exact bo gv.c.u
   | trivial
   | exact K.1
   | exact K.2.1
   | exact K.2.2
   | exact hbn2.symm
   | exact gg.i
   | exact gg.g
 ·have q := (eT gg gr gv).1 h.1; obtain ⟨i, hi, e1, e2, e3, e4, e5, e6⟩ := get_at gg gr gv q; obtain ⟨hl2, _⟩ := xr q; have ho := go _ (fS (d := .t s.S) hl2); rw [aaM (by omega) h.2.1, if_pos q] at hA hS; rw [hA, hS]
  rw [<- e6] at ho ⊢; refine ⟨ho, ?_⟩
  repeat' refine And.intro ?_ ?_
  all_goals first
   | rfl
   | omega
   | assumption
   | exact List.Perm.refl _
   | exact bo gv.c.u
   | trivial
   | exact K.1
   | exact K.2.1
   | exact K.2.2
   | exact hbn2.symm
   | exact gg.i
   | exact gg.g
 ·rw [aaM (by omega) h.2.1, if_neg fun q => h.1 ((eT gg gr gv).2 q)] at hA hS; rw [hA, hS]
  repeat' refine And.intro ?_ ?_
  all_goals first
   | rfl
   | omega
   | assumption
   | exact List.Perm.refl _
   | exact bo gv.c.u
   | trivial
   | exact K.1
   | exact K.2.1
   | exact K.2.2
   | exact hbn2.symm
   | exact gg.i
   | exact gg.g
 ·rw [XE] at h; have q := (eT gg gr gv).1 h.1; obtain ⟨i, hi, e1, e2, e3, e4, e5, e6⟩ := get_at gg gr gv q; obtain ⟨hl2, _⟩ := xr q; have ho := go _ (fS (d := .t s.S) hl2); rw [St (by omega), if_pos q] at hA hS; rw [hA, hS]
  rw [<- e6] at ho ⊢; rw [<- afG] at ho e4 ⊢; refine ⟨ho, ?_⟩
  repeat' refine And.intro ?_ ?_
  all_goals first
   | rfl
   | omega
   | assumption
   | exact List.Perm.refl _
   | exact bo gv.c.u
   | trivial
   | exact K.1
   | exact K.2.1
   | exact K.2.2
   | exact hbn2.symm
   | exact gg.i
   | exact gg.g
 ·rw [XE] at h; rw [St (by omega), if_neg fun q => h.1 ((eT gg gr gv).2 q)] at hA hS; rw [hA, hS]
  repeat' refine And.intro ?_ ?_
  all_goals first
   | rfl
   | omega
   | assumption
   | exact List.Perm.refl _
   | exact bo gv.c.u
   | trivial
   | exact K.1
   | exact K.2.1
   | exact K.2.2
   | exact hbn2.symm
   | exact gg.i
   | exact gg.g
 ·rw [ac8 (by omega)] at hA hS; rw [hA, hS]
  repeat' refine And.intro ?_ ?_
  all_goals first
   | rfl
   | omega
   | assumption
   | exact List.Perm.refl _
   | exact bo gv.c.u
   | trivial
   | exact K.1
   | exact K.2.1
   | exact K.2.2
   | exact hbn2.symm
   | exact gg.i
   | exact gg.g
 ·rw [agx (by omega)] at hA hS; rw [hA, hS]
  repeat' refine And.intro ?_ ?_
  all_goals first
   | rfl
   | omega
   | assumption
   | exact List.Perm.refl _
   | exact bo gv.c.u
   | trivial
   | exact K.1
   | exact K.2.1
   | exact K.2.2
   | exact hbn2.symm
   | exact gg.i
   | exact gg.g
theorem GF (hu : OU o) (hv : OV o) (hh : OH o) (hj : OJ o) {r : Nat} (hr : o.v 2207 = .i r) (hent : (CQ.aV 0).aB o) (hle : (r : Int) <= ((aH (.v 7780)).den o).I) : br o Pe := by
 refine yf (HT hu hv hh hj hr hent hle hr) ?_; simp only [CQ, DA, cX, aH, pk, List.foldr, SS, implies_true, hj.hp, aw] at hent hle; obtain ⟨hf, hlen⟩ := hent; obtain ⟨gg, go, gl, gv, gr, gn, gb, gi, ga⟩ := rR hf r (by omega)
 simp only [al, av, and_true]; intro h
 all_goals simp only [SS, implies_true, hr, hh.all, hu.qE, hu.Lg, hu.JA, hu.Oq, hu.mr, hu.Ab, hu.JD, hv.QB, hv.KJ, hv.RU, hv.JI, hv.PQ, hj.hb, hj.hp, Dx, aw, da, Classical.not_not, QH, UC, PW, Qr, tnn, tni] at h ⊢
 have e : r = (o.v 7780).T.length := by omega
 have e2 := @mD (o.v 7780); refine ⟨?_, ?_, ?_⟩
 all_goals first
  | (rw [<- e]; done)
  | exact e8 (by rw [e2]; omega)
  | (rw [e2]; omega)
theorem G1 (hu : OU o) (hv : OV o) (hh : OH o) (hj : OJ o) {r : Nat} (hr : o.v 2207 = .i r) (hent : (CQ.aV 0).aB o) (hmf : (CQ.mf 0).aB o) (hle : (r : Int) <= ((aH (.v 7780)).den o).I) : br o RD := by
 have hmf : aa.aB o [(.o2 .aX (.v 2207) (.il 0), true)] := hmf; simp only [SS, implies_true, hr] at hmf; have hr0 : r = 0 := by omega
 refine yf (HT hu hv hh hj hr hent hle (by rw [hr0]; rfl)) ?_
 simp only [CQ, DA, cX, aH, pk, List.foldr, SS, implies_true, hj.hp, aw] at hent hle; obtain ⟨hf, hlen⟩ := hent; obtain ⟨gg, go, gl, gv, gr, gn, gb, gi, ga⟩ := rR hf r (by omega)
 simp only [al, av, and_true]; intro h
 all_goals simp only [SS, implies_true, hr, hh.all, hu.qE, hu.Lg, hu.JA, hu.Oq, hu.mr, hu.Ab, hu.JD, hv.QB, hv.KJ, hv.RU, hv.JI, hv.PQ, hj.hb, hj.hp, Dx, aw, da, Classical.not_not, QH, UC, PW, Qr, tnn, tni] at h ⊢
 have e : r = (o.v 7780).T.length := by omega
 have : (bL (o.v 7780)).length = 0 := by rw [mD]; omega
 exact ⟨(List.length_eq_zero_iff.1 this).symm, by rw [<- e]⟩
end
end Go.Proofs.YtdlppkhmmclipaaGreat.sxObj
namespace Go.Proofs.YtdlppkhmmclipaaGreat.sxObj
open Go.Sx
set_option linter.unusedVariables false
set_option maxRecDepth 100000
def Q6 : List (aa × List Ob) :=
 [([], oO (.o2 .aX (.o1 .ab (.v 2202)) (.o1 .ab (.v 7740))) (oP (.v 2202) (.uf 200 (eP (.v 7740) (.il 0))) []))]
def Rl : List (aa × List Ob) :=
 [(fT (.o2 .le (.il 0) (.o2 (.mf .s) (.v 7740) (.v 7749))) [], oO (.o2 .le (.o1 .ab (.v 2202)) (.il 2147483648)) [])]
abbrev oq0 : E := .o2 (.mf .s) (.v 7751) (eC 0 (.v 7750) (.v 2203))
abbrev oq1 : E := .o2 .lt (.v 2203) (.o1 .ab (.v 7750))
abbrev oq2 : E := eC 1 (.v 7751) oq0
abbrev oq3 : E := .uf 300 (eP (.v 7750) (eP (.v 7751) (eP (.v 7752) (.il 0))))
def hlL : List (aa × List Ob) :=
 [(fT (.o2 .le (.il 0) oq0) (fT oq1 []), oO (.o2 .le (.il 0) oq2) (oO (.o2 .le (.il 0) oq2) (oO (.o2 .le (.il 0) oq2) (oT (eC 0 (.v 7752) oq2) (eC 0 oq3 (.v 2203)) [])))),
  (fF (.o2 .le (.il 0) oq0) (fT oq1 []), oO (.bl false) []),
  (fF oq1 [], oO (.o2 .le (.v 2203) (.o1 .ab oq3)) (oT (.o2 .de oq3 (.v 2203)) oq3 []))]
abbrev oq4 : E := .o2 .lt (.v 2204) (.o1 .ab (.v 7757))
def hkL : List (aa × List Ob) :=
 [(fT oq4 [], []),
  (fF oq4 [], oT (.o2 .de (.v 7757) (.v 2204)) (.v 7757) [])]
def hwL : List (aa × List Ob) :=
 [(fT (.v 7761) (fT (.o2 .aX (.v 7760) (.il 0)) []), []),
  (fF (.o2 .aX (.v 7760) (.il 0)) [], [])]
end Go.Proofs.YtdlppkhmmclipaaGreat.sxObj
namespace Go.Proofs.YtdlppkhmmclipaaGreat.sxObj
open Go.Sx Go.RowKit Go.Proofs.YtdlppkhmmclipaaGreat
set_option linter.unusedVariables false
set_option linter.unusedSimpArgs false
set_option maxRecDepth 100000
section
variable {o : Env}
theorem Mh (f : FuncId) : eV Tryz.prog o f Ll := by
 intro w0 args nx p h r h' nx' hp hr; have e : Prog.fail "never" = p := Option.some.inj hp; rw [<- e] at hr; exact absurd hr id
theorem Vu : Q5.jC Tryz.prog = some WG := by kernel_rfl
theorem RA (hu : OU o) : eV Tryz.prog o R6 Q5.bh :=
 cS plain mixed (D := Q5) Vu (fun e A he => bN (c := ⟨[(tz, qV.bh)], []⟩) (by kernel_rfl) ⟨zl (hu.aE he), trivial⟩ trivial A) (fun e he h => Se)
theorem ve (hu : OU o) (A : Anchor) : eJ Tryz.prog o A (IU.x.cR Tryz.prog) := bN (c := IU) (by kernel_rfl) ⟨RA hu, trivial⟩ trivial A
theorem XI : iw Tryz.prog LJ (.o2 .sub (.v 7202) (.v 7201)) Uv := ⟨by kernel_rfl, by kernel_rfl, rfl, by kernel_rfl, rfl, fun m h => bt h, fun m h => bt h, fun _ => rfl⟩
theorem R9 (hu : OU o) : eg Tryz.prog o iW 1 LJ.dB :=
 XI.ok plain mixed (fun e he h => by
  obtain ⟨_, hent⟩ := fJ (hu.aE he) h; simp only [cX, aH, SS, implies_true] at hent ⊢
  omega) (fun e A he => ve (hu.aE he) A) (fun e i he h hr hl => O8 (hu.aE he) hr h hl)
theorem Wo : FO.jC Tryz.prog = some Ty := by kernel_rfl
theorem G7 (hu : OU o) : eV Tryz.prog o iW FO.bh :=
 cS plain mixed (D := FO) Wo (fun e A he => bN (c := ⟨[], [(iW, 1, LJ.dB)]⟩) (by kernel_rfl) trivial ⟨R9 (hu.aE he), trivial⟩ A) (fun e he h => by simp only [Ty, al, av, and_true]; intro _; simp only [vI])
theorem Wr : iw Tryz.prog QK (.o2 .sub (.v 7213) (.v 7212)) Yw := ⟨by kernel_rfl, by kernel_rfl, rfl, by kernel_rfl, rfl, fun m h => bt h, fun m h => bt h, fun _ => rfl⟩
theorem R1 (hu : OU o) : eg Tryz.prog o cG 3 QK.dB :=
 Wr.ok plain mixed (fun e he h => by
  obtain ⟨_, hent⟩ := fJ (hu.aE he) h; simp only [cX, sX, aH, SS, implies_true] at hent ⊢
  omega) (fun e A he => ve (hu.aE he) A) (fun e i he h hr hl => QN (hu.aE he) hr h hl)
theorem W5 : iw Tryz.prog Ri (.o2 .sub (.v 7217) (.v 7216)) YB := ⟨by kernel_rfl, by kernel_rfl, rfl, by kernel_rfl, rfl, fun m h => bt h, fun m h => bt h, fun _ => rfl⟩
theorem Sd (hu : OU o) : eg Tryz.prog o cG 15 Ri.dB :=
 W5.ok plain mixed (fun e he h => by
  obtain ⟨_, hent⟩ := fJ (hu.aE he) h; simp only [cX, sX, aH, SS, implies_true] at hent ⊢
  omega) (fun e A he => ve (hu.aE he) A) (fun e i he h hr hl => Pv (hu.aE he) hr h hl)
theorem Wz : iw Tryz.prog P5 (.o2 .sub (.v 7222) (.v 7221)) Xp := ⟨by kernel_rfl, by kernel_rfl, rfl, by kernel_rfl, rfl, fun m h => bt h, fun m h => bt h, fun _ => rfl⟩
theorem Q4 (hu : OU o) : eg Tryz.prog o cG 33 P5.dB :=
 Wz.ok plain mixed (fun e he h => by
  obtain ⟨_, hent⟩ := fJ (hu.aE he) h; simp only [cX, sX, aH, SS, implies_true] at hent ⊢
  omega) (fun e A he => ve (hu.aE he) A) (fun e i he h hr hl => QD (hu.aE he) hr h hl)
theorem Yo : acZ.jC Tryz.prog = some U1 := by kernel_rfl
theorem HF (hu : OU o) : eV Tryz.prog o cG Dz.bh :=
 cK.Xg plain mixed (D := Dz) (G := 7229) (sz := De) (X := Xk.x.Ba) Yo rfl (by kernel_rfl) (fun _ => rfl)
  (fun e A he hf => rf (c := Xk) (by kernel_rfl) ⟨Mh G0, hf, trivial⟩ ⟨R1 (hu.aE he.uf), Sd (hu.aE he.uf), Q4 (hu.aE he.uf), trivial⟩ A)
  (fun e he h => Rq (hu.aE he.uf) h) (fun e he h => by
   obtain ⟨_, hent⟩ := fJ (hu.aE he.uf) h; simp only [De, cX, sX, aH, SS, implies_true] at hent ⊢
   omega)
theorem YE : iw Tryz.prog KM (.o2 .quo (.v 7231) (.il 20)) Vb := ⟨by kernel_rfl, by kernel_rfl, rfl, by kernel_rfl, rfl, fun m h => bt h, fun m h => bt h, fun _ => rfl⟩
theorem QL (hu : OU o) : eg Tryz.prog o fc 2 KM.dB :=
 YE.ok plain mixed (fun e he h => by
  obtain ⟨_, hent⟩ := fJ (hu.aE he) h; simp only [cX, sX, aH, lB, SS, implies_true] at hent ⊢
  exact Int.tdiv_nonneg (by omega) (by omega)) (fun e A he => bN (c := ⟨[(iW, FO.bh)], []⟩) (by kernel_rfl) ⟨G7 (hu.aE he), trivial⟩ trivial A) (fun e i he h hr hl => Qi (hu.aE he) hr h hl)
theorem Y6 : iw Tryz.prog LA Ew Xw := ⟨by kernel_rfl, by kernel_rfl, rfl, by kernel_rfl, rfl, fun m h => bt h, fun m h => bt h, fun _ => rfl⟩
theorem PH (hu : OU o) : eg Tryz.prog o fc 9 LA.dB :=
 Y6.ok plain mixed (fun e he h => by
  have hent : (uL (.v 7234) ++ [(.o2 .aX (.v 7235) (aH (.v 7234)), true), cX (.il 20) (.v 7236), sX (.v 7236) (.v 7235)]).aB e := h; obtain ⟨_, hent⟩ := fJ (hu.aE he) hent; simp only [cX, sX, aH, Ew, lB, SS, implies_true] at hent ⊢
  exact Int.tdiv_nonneg (by omega) (by omega)) (fun e A he => bN (c := ⟨[(cG, Dz.bh)], []⟩) (by kernel_rfl) ⟨HF (hu.aE he), trivial⟩ trivial A) (fun e i he h hr hl => QY (hu.aE he) hr h hl)
theorem Yt : iw Tryz.prog N3 (.v 7241) Wa := ⟨by kernel_rfl, by kernel_rfl, rfl, by kernel_rfl, rfl, fun m h => bt h, fun m h => bt h, fun _ => rfl⟩
theorem Qm (hu : OU o) : eg Tryz.prog o fc 7 N3.dB :=
 Yt.ok plain mixed (fun e he h => by
  obtain ⟨_, hent⟩ := fJ (hu.aE he) h; simp only [cX, sX, aH, lB, SS, implies_true] at hent ⊢
  omega) (fun e A he => bN (c := ⟨[(cG, Dz.bh)], [(fc, 9, LA.dB)]⟩) (by kernel_rfl) ⟨HF (hu.aE he), trivial⟩ ⟨PH (hu.aE he), trivial⟩ A) (fun e i he h hr hl => Qe (hu.aE he) hr h hl)
theorem Jp : pK.jC Tryz.prog = some Bs := by kernel_rfl
theorem EG (hu : OU o) : eV Tryz.prog o vg pK.bh :=
 cS plain mixed (D := pK) Jp (fun e A he => bN (c := ⟨[(iW, FO.bh)], [(fc, 2, KM.dB), (fc, 7, N3.dB)]⟩) (by kernel_rfl) ⟨G7 (hu.aE he), trivial⟩ ⟨QL (hu.aE he), Qm (hu.aE he), trivial⟩ A) (fun e he h => EO (hu.aE he) h)
theorem Ge : IK Tryz.prog jc (aH (.v 7250)) tu tD := ⟨by kernel_rfl, by kernel_rfl, by kernel_rfl, rfl, rfl, by kernel_rfl, rfl, fun m h => bt h, fun m h => Eb h, fun _ => rfl⟩
theorem Ec (hu : OU o) : eg Tryz.prog o kM 3 jc.dB :=
 Ge.ok plain mixed (fun o _ _ => kP o) (fun e A he => bN (c := ⟨[(iq, iV.bh)], []⟩) (by kernel_rfl) ⟨qO (hu.aE he), trivial⟩ trivial A) (fun e he h hr _ => zY (hu.aE he) hr h) (fun e i he h hr _ hl => AK (hu.aE he) hr h hl)
theorem Eo : mA.jC Tryz.prog = some tk := by kernel_rfl
theorem D0 (hu : OU o) : eV Tryz.prog o kM mA.bh :=
 cS plain mixed (D := mA) Eo (fun e A he => bN (c := ⟨[(vg, pK.bh)], [(kM, 3, jc.dB)]⟩) (by kernel_rfl) ⟨EG (hu.aE he), trivial⟩ ⟨Ec (hu.aE he), trivial⟩ A) (fun e he h => BM (hu.aE he) h)
end
section
variable {o : Env}
theorem Zu : iw Tryz.prog Zi (Vm (.v 7300) (.v 7301) (.v 7302)) ixL := ⟨by kernel_rfl, by kernel_rfl, rfl, by kernel_rfl, rfl, fun m h => bt h, fun m h => bt h, fun _ => rfl⟩
theorem W3 (hu : OU o) : eg Tryz.prog o BF 2 Zi.dB :=
 Zu.ok plain mixed (fun e he h => by
  simp only [Vm, pk, List.foldr, SS, implies_true, (hu.aE he).Rr]
  omega) (fun _ _ _ => cB) (fun e i he h hr hl => WK (hu.aE he) hr h hl)
theorem abp : coF.jC Tryz.prog = some coL := by kernel_rfl
theorem WY (hu : OU o) : eV Tryz.prog o pW coF.bh :=
 cS plain mixed (D := coF) abp (fun e A he => bN (c := ⟨[], [(BF, 2, Zi.dB)]⟩) (by kernel_rfl) trivial ⟨W3 (hu.aE he), trivial⟩ A) (fun e he h => XV (hu.aE he))
theorem acH : iw Tryz.prog slY (aH (.v 7307)) Wq := ⟨by kernel_rfl, by kernel_rfl, rfl, by kernel_rfl, rfl, fun m h => bt h, fun m h => bt h, fun _ => rfl⟩
theorem W2 (hu : OU o) : eg Tryz.prog o eM 4 slY.dB :=
 acH.ok plain mixed (fun o _ _ => kP o) (fun e A he => bN (c := ⟨[(pW, coF.bh)], []⟩) (by kernel_rfl) ⟨WY (hu.aE he), trivial⟩ trivial A) (fun e i he h hr hl => QE (hu.aE he) hr)
theorem acR : slF.jC Tryz.prog = some slL := by kernel_rfl
theorem Wp (hu : OU o) : eV Tryz.prog o eM slF.bh :=
 cS plain mixed (D := slF) acR (fun e A he => bN (c := ⟨[], [(eM, 4, slY.dB)]⟩) (by kernel_rfl) trivial ⟨W2 (hu.aE he), trivial⟩ A) (fun e he h => (GR (hu.aE he)).2.2.1)
theorem adB : soF.jC Tryz.prog = some soL := by kernel_rfl
theorem WM (hu : OU o) : eV Tryz.prog o rL soF.bh :=
 cS plain mixed (D := soF) adB (fun e A he => bN (c := ⟨[(eM, slF.bh)], []⟩) (by kernel_rfl) ⟨Wp (hu.aE he), trivial⟩ trivial A) (fun e he h => (GR (hu.aE he)).2.2.2.1)
theorem ae2 : iw Tryz.prog z6Y (.uf 134 (pk [.v 7400])) Wg := ⟨by kernel_rfl, by kernel_rfl, rfl, by kernel_rfl, rfl, fun m h => bt h, fun m h => bt h, fun _ => rfl⟩
theorem Xh (hu : OU o) : eg Tryz.prog o CJ 4 z6Y.dB :=
 ae2.ok plain mixed (fun e he h => by simp only [pk, List.foldr, SS, implies_true, (hu.aE he).U3]; omega) (fun _ _ _ => cB) (fun e i he h hr hl => Rh (hu.aE he) hr hl)
theorem acy : z6F.jC Tryz.prog = some z6L := by kernel_rfl
theorem Uf (hu : OU o) : eV Tryz.prog o CJ z6F.bh :=
 cS plain mixed (D := z6F) acy (fun e A he => bN (c := ⟨[], [(CJ, 4, z6Y.dB)]⟩) (by kernel_rfl) trivial ⟨Xh (hu.aE he), trivial⟩ A) (fun e he h => Y2 (hu.aE he))
theorem Z3 : Za.jC Tryz.prog = some z5L := by kernel_rfl
theorem M0 (hu : OU o) : eV Tryz.prog o Kj Za.bh :=
 cS plain mixed (D := Za) Z3 (fun e A he => bN (c := ⟨[(CJ, z6F.bh)], []⟩) (by kernel_rfl) ⟨Uf (hu.aE he), trivial⟩ trivial A) (fun e he h => Yg (hu.aE he))
theorem Yk : iw Tryz.prog OT (.uf 138 (pk [.v 7420])) L6 := ⟨by kernel_rfl, by kernel_rfl, rfl, by kernel_rfl, rfl, fun m h => bt h, fun m h => bt h, fun _ => rfl⟩
theorem QC (hu : OU o) : eg Tryz.prog o uo 4 OT.dB :=
 Yk.ok plain mixed (fun e he h => by simp only [pk, List.foldr, SS, implies_true, (hu.aE he).X0]; omega) (fun e A he => bN (c := ⟨[(Kj, Za.bh)], []⟩) (by kernel_rfl) ⟨M0 (hu.aE he), trivial⟩ trivial A) (fun e i he h hr hl => K7 (hu.aE he) hr hl)
theorem XH : N0.jC Tryz.prog = some Xq := by kernel_rfl
theorem PN (hu : OU o) : eV Tryz.prog o uo N0.bh :=
 cS plain mixed (D := N0) XH (fun e A he => bN (c := ⟨[], [(uo, 4, OT.dB)]⟩) (by kernel_rfl) trivial ⟨QC (hu.aE he), trivial⟩ A) (fun e he h => Pr (hu.aE he))
theorem WO : iw Tryz.prog QW (.uf 144 (pk [.v 7430, .v 7431])) WR := ⟨by kernel_rfl, by kernel_rfl, rfl, by kernel_rfl, rfl, fun m h => bt h, fun m h => bt h, fun _ => rfl⟩
theorem Ph (hu : OU o) : eg Tryz.prog o jy 7 QW.dB :=
 WO.ok plain mixed (fun e he h => by simp only [pk, List.foldr, SS, implies_true, (hu.aE he).Xv]; omega) (fun _ _ _ => cB) (fun e i he h hr hl => Rx (hu.aE he) hr hl)
theorem Ut : iw Tryz.prog Iz (.uf 146 (pk [.v 7433])) Lb := ⟨by kernel_rfl, by kernel_rfl, rfl, by kernel_rfl, rfl, fun m h => bt h, fun m h => bt h, fun _ => rfl⟩
theorem QV (hu : OU o) : eg Tryz.prog o jy 2 Iz.dB :=
 Ut.ok plain mixed (fun e he h => by simp only [pk, List.foldr, SS, implies_true, (hu.aE he).X4]; omega) (fun e A he => bN (c := ⟨[], [(jy, 7, QW.dB)]⟩) (by kernel_rfl) trivial ⟨Ph (hu.aE he), trivial⟩ A) (fun e i he h hr hl => MX (hu.aE he) hr h hl)
theorem XK : Mr.jC Tryz.prog = some UU := by kernel_rfl
theorem QM (hu : OU o) : eV Tryz.prog o jy Mr.bh :=
 cS plain mixed (D := Mr) XK (fun e A he => bN (c := ⟨[], [(jy, 2, Iz.dB)]⟩) (by kernel_rfl) trivial ⟨QV (hu.aE he), trivial⟩ A) (fun e he h => R3 (hu.aE he))
theorem aeT : iw Tryz.prog shY (.uf 149 (pk [.v 7436])) shL := ⟨by kernel_rfl, by kernel_rfl, rfl, by kernel_rfl, rfl, fun m h => bt h, fun m h => bt h, fun _ => rfl⟩
theorem Yv (hu : OU o) : eg Tryz.prog o lX 5 shY.dB :=
 aeT.ok plain mixed (fun e he h => by simp only [pk, List.foldr, SS, implies_true, (hu.aE he).Yr]; omega) (fun _ _ _ => cB) (fun e i he h hr hl => X2 (hu.aE he) hr hl)
theorem aeC : Re.jC Tryz.prog = some smL := by kernel_rfl
theorem K1 (hu : OU o) : eV Tryz.prog o lX Re.bh :=
 cS plain mixed (D := Re) aeC (fun e A he => bN (c := ⟨[(jy, Mr.bh)], [(lX, 5, shY.dB)]⟩) (by kernel_rfl) ⟨QM (hu.aE he), trivial⟩ ⟨Yv (hu.aE he), trivial⟩ A) (fun e he h => XY (hu.aE he) h)
theorem Yi : iw Tryz.prog Jg (.uf 152 (pk [.v 7450])) Mp := ⟨by kernel_rfl, by kernel_rfl, rfl, by kernel_rfl, rfl, fun m h => bt h, fun m h => bt h, fun _ => rfl⟩
theorem RW (hu : OU o) : eg Tryz.prog o lv 2 Jg.dB :=
 Yi.ok plain mixed (fun e he h => by simp only [pk, List.foldr, SS, implies_true, (hu.aE he).U5]; omega) (fun e A he => bN (c := ⟨[(lX, Re.bh)], []⟩) (by kernel_rfl) ⟨K1 (hu.aE he), trivial⟩ trivial A) (fun e i he h hr hl => MT (hu.aE he) hr h hl)
theorem Yl : Nk.jC Tryz.prog = some VV := by kernel_rfl
theorem Pp (hu : OU o) : eV Tryz.prog o lv Nk.bh :=
 cS plain mixed (D := Nk) Yl (fun e A he => bN (c := ⟨[], [(lv, 2, Jg.dB)]⟩) (by kernel_rfl) trivial ⟨RW (hu.aE he), trivial⟩ A) (fun e he h => R0 (hu.aE he))
end
section
variable {o : Env}
end
section
variable {o : Env}
end
section
variable {o : Env}
end
section
variable {o : Env}
theorem Qq : xC.jC Tryz.prog = some Lu := by kernel_rfl
theorem C4 (hu : OU o) (hh : OH o) : eV Tryz.prog o tS xC.bh :=
 cS plain mixed (D := xC) Qq (fun e A he => bN (c := ⟨[(iq, iV.bh), (tz, qV.bh)], []⟩) (by kernel_rfl) ⟨qO (hu.aE he), zl (hu.aE he), trivial⟩ trivial A) (fun e he h => LC (hu.aE he) (hh.aE he))
theorem ad4 : iw Tryz.prog Zk (.uf 284 (pk RX)) upL := ⟨by kernel_rfl, by kernel_rfl, rfl, by kernel_rfl, rfl, fun m h => bt h, fun m h => bt h, fun _ => rfl⟩
theorem KW (hu : OU o) (hh : OH o) : eg Tryz.prog o fUp 0 Zk.dB :=
 ad4.ok plain mixed (fun e he h => by simp only [RX, pk, List.foldr, SS, implies_true, (hh.aE he).all]; omega) (fun e A he => rf (c := ⟨[(tS, xC.bh)], []⟩) (by kernel_rfl) ⟨C4 (hu.aE he) (hh.aE he), trivial⟩ trivial A) (fun e i he h hr hl => Ul (hu.aE he) (hh.aE he) hr h hl)
theorem Z8 : iw Tryz.prog Zo (.uf 294 (pk Oy)) dnL := ⟨by kernel_rfl, by kernel_rfl, rfl, by kernel_rfl, rfl, fun m h => bt h, fun m h => bt h, fun _ => rfl⟩
theorem Oi (hu : OU o) (hh : OH o) : eg Tryz.prog o Ij 2 Zo.dB :=
 Z8.ok plain mixed (fun e he h => by simp only [Oy, pk, List.foldr, SS, implies_true, (hh.aE he).all]; omega) (fun e A he => rf (c := ⟨[(tS, xC.bh)], []⟩) (by kernel_rfl) ⟨C4 (hu.aE he) (hh.aE he), trivial⟩ trivial A) (fun e i he h hr hl => VA (hu.aE he) (hh.aE he) hr h hl)
end
section
variable {o : Env}
theorem adA : aj.NA Tryz.prog IG Fb 0 false = some Q6 := by kernel_rfl
theorem adX : aj.NA Tryz.prog IG Fb 0 true = some Rl := by kernel_rfl
theorem Xd (hv : OV o) : eg Tryz.prog o FI 3 IG.dB := by
 refine aj.Vy plain mixed (D := IG) (R := Fb) (by kernel_rfl) (fun e' he μ0 h0 hent => ?_) (fun _ => rfl)
 obtain rfl := bt h0; have hv' := hv.aE he.uf; have hent : aa.aB e' [nk (.v 7740), (.uf 201 (pk [.v 7740]), true)] := hent; simp only [nk, aH, pk, List.foldr, SS, implies_true, hv'.KJ, aw] at hent; obtain ⟨hmx, hap⟩ := hent; refine ⟨⟨fun _ vs μ => μ = 0 /\ vs.Pairwise (fun a b => KK.str.dv a ≠ KK.str.dv b) /\ ∀ k ∈ vs, ∃ r ∈ (e'.v 7740).T, r.headD (.i 0) = k, fun _ b => cond b Rl Q6, fun _ _ _ _ => cB, fun u vs μ hm b => ?_, fun u vs μ e hm he0 hO x hx hfx => ?_, fun u vs μ e k hm he0 hC x hx hfx => ?_, fun u vs μ y hm => ?_, fun u vs μ μ' e k hm he0 hC ht _ => ⟨0, ⟨rfl, ?_, ?_⟩, ?_⟩, fun u _ => ⟨0, ⟨rfl, List.Pairwise.nil, fun _ q => by cases q⟩, gz.refl _⟩⟩⟩
 ·rw [hm.1]; cases b
  ·exact adA
  ·exact adX
 ·obtain ⟨h1, h2, h3⟩ := hm; rw [h1] at he0; injection he0 with he0; subst he0; have hp := keys_perm hap h2 h3 hO; refine gW (env := IG.dh Fb e' u (aj.di vs) (e'.v Fb.kv)) ?_ x hx hfx; have hv2 : OV (IG.dh Fb e' u (aj.di vs) (e'.v Fb.kv)) := hv'; show br _ Q6; simp only [Q6, al, av, and_true]; intro h; simp only [SS, implies_true, hv2.QB]; have e1 : (IG.dh Fb e' u (aj.di vs) (e'.v Fb.kv)).v 2202 = aj.di vs := rfl; have e2 : (IG.dh Fb e' u (aj.di vs) (e'.v Fb.kv)).v 7740 = e'.v 7740 := rfl; rw [e1, e2, aj.AW]; have := hp.length_eq; refine ⟨?_, hp⟩; simp only [List.length_map] at this ⊢; omega
 ·obtain ⟨h1, h2, h3⟩ := hm; rw [h1] at he0; injection he0 with he0; subst he0; refine gW (env := IG.dh Fb e' u (aj.di vs) k) ?_ x hx hfx; show br _ Rl; simp only [Rl, al, av, and_true]; intro h; simp only [SS, implies_true]; have e1 : (IG.dh Fb e' u (aj.di vs) k).v 2202 = aj.di vs := rfl; rw [e1, aj.AW, List.length_map]; have := Ot h2 h3; omega
 ·rw [hm.1]; have hv2 : OV (IG.dh Fb e' u (aj.di vs) y) := hv'; show aa.aB _ [nk (.v 7740), (.uf 201 (pk [.v 7740]), true)]; have e2 : (IG.dh Fb e' u (aj.di vs) y).v 7740 = e'.v 7740 := rfl; simp only [nk, aH, pk, List.foldr, SS, implies_true, hv2.KJ, aw, e2]; exact ⟨hmx, hap⟩
 ·refine List.pairwise_append.2 ⟨hm.2.1, List.pairwise_singleton _ _, fun a ha b hb => ?_⟩; rw [List.mem_singleton.1 hb]; exact hC.2 a ha
 ·intro k' hk'; rcases List.mem_append.1 hk' with h | h
  ·exact hm.2.2 k' h
  ·rw [List.mem_singleton.1 h]; have he := hm.1; subst he; injection he0 with he0; subst he0; exact hC.1
 ·have := hm.1; rw [bt ht]; exact gz.refl _
theorem Um (hh : OH o) (hj : OJ o) {r : Nat} (hr : o.v 2203 = .i r) (hent : (hlY.aV 0).aB o) (hle : (r : Int) <= ((aH (.v 7750)).den o).I) : br o hlL := by
 simp only [hlY, hlF, nk, aH, pk, List.foldr, SS, implies_true, hj.hb, aw] at hent hle; obtain ⟨hmx, hin⟩ := hent; simp only [hlL, al, av, and_true]
 and_intros
 all_goals intro h
 all_goals simp only [SS, implies_true, hr, hj.hb] at h ⊢
 ·have q := (hin _ (fS (d := o.v 7750) (n := r) (by omega))).2
  refine ⟨q, q, q, ?_⟩; unfold SM; rw [Mw (by omega)]
  rfl
 ·exact absurd (hin _ (fS (d := o.v 7750) (n := r) (by omega))).1 h.1
 ·have : (SM (o.v 7750) (o.v 7751) (o.v 7752)).length = (o.v 7750).T.length := by unfold SM; rw [List.length_map]
  exact ⟨by omega, e8 (by omega)⟩
theorem Xb {r : Nat} (hr : o.v 2204 = .i r) : br o hkL := by
 simp only [hkL, al, av, and_true]
 and_intros
 all_goals intro h
 all_goals simp only [SS, implies_true, hr] at h ⊢
 exact e8 (by omega)
theorem Ws (hent : (hwY.aV 0).aB o) : br o hwL := by
 simp only [hwY, hwF, cX, SS, implies_true] at hent; simp only [hwL, al, av, and_true]
 and_intros
 all_goals intro h
 all_goals simp only [SS, implies_true] at h ⊢
 all_goals first | omega | trivial | exact hent.1
theorem aeX : iw Tryz.prog hlY (aH (.v 7750)) hlL := ⟨by kernel_rfl, by kernel_rfl, rfl, by kernel_rfl, rfl, fun m h => bt h, fun m h => bt h, fun _ => rfl⟩
theorem YV (hh : OH o) (hj : OJ o) : eg Tryz.prog o Av 5 hlY.dB :=
 aeX.ok plain mixed (fun o _ _ => kP o) (fun _ _ _ => cB) (fun e i he h hr hl => Um (hh.aE he) (hj.aE he) hr h hl)
theorem ab8 : iw Tryz.prog hkY (aH (.v 7757)) hkL := ⟨by kernel_rfl, by kernel_rfl, rfl, by kernel_rfl, rfl, fun m h => bt h, fun m h => bt h, fun _ => rfl⟩
theorem YM : eg Tryz.prog o AS 5 hkY.dB :=
 ab8.ok plain mixed (fun o _ _ => kP o) (fun _ _ _ => cB) (fun e i he h hr hl => Xb hr)
theorem ZC : iw Tryz.prog hwY (.il 0) hwL := ⟨by kernel_rfl, by kernel_rfl, rfl, by kernel_rfl, rfl, fun m h => bt h, fun m h => bt h, fun _ => rfl⟩
theorem WU : eg Tryz.prog o F5 3 hwY.dB :=
 ZC.ok plain mixed (fun e he h => Int.le_refl _) (fun _ _ _ => cB) (fun e i he h hr hl => Ws h)
theorem adu : iw Tryz.prog hbY (.uf 212 (pk [.v 7770])) hbL := ⟨by kernel_rfl, by kernel_rfl, rfl, by kernel_rfl, rfl, fun m h => bt h, fun m h => bt h, fun _ => rfl⟩
theorem Wy (hu : OU o) (hv : OV o) (hh : OH o) (hj : OJ o) : eg Tryz.prog o AG 6 hbY.dB :=
 adu.ok plain mixed (fun e he h => by simp only [pk, List.foldr, SS, implies_true, (hv.aE he).JI]; omega)
  (fun e A he => rf (c := hbX) (by kernel_rfl) ⟨vV (hu.aE he), trivial⟩ ⟨KW (hu.aE he) (hh.aE he), Oi (hu.aE he) (hh.aE he), trivial⟩ A)
  (fun e i he h hr hl => Wj (hu.aE he) (hv.aE he) (hh.aE he) (hj.aE he) hr h hl)
end
end Go.Proofs.YtdlppkhmmclipaaGreat.sxObj
namespace Go.Proofs.YtdlppkhmmclipaaGreat.sxObj
open Go.Sx
set_option linter.unusedVariables false
set_option maxRecDepth 100000
abbrev ow0 : E := .v 7580
abbrev Zn : E := eC 0 ow0 (.v 2160)
abbrev ow2 : E := .il 0
end Go.Proofs.YtdlppkhmmclipaaGreat.sxObj
namespace Go.Proofs.YtdlppkhmmclipaaGreat.sxObj
open Go.Sx Go.RowKit Go.Proofs.YtdlppkhmmclipaaGreat
set_option linter.unusedVariables false
set_option linter.unusedSimpArgs false
set_option maxRecDepth 100000
section
variable {o : Env}
end
end Go.Proofs.YtdlppkhmmclipaaGreat.sxObj
namespace Go.Proofs.YtdlppkhmmclipaaGreat.sxObj
open Go.Sx
set_option linter.unusedVariables false
set_option maxRecDepth 100000
end Go.Proofs.YtdlppkhmmclipaaGreat.sxObj
namespace Go.Proofs.YtdlppkhmmclipaaGreat.sxObj
open Go.Sx Go.RowKit Go.Proofs.YtdlppkhmmclipaaGreat
set_option linter.unusedVariables false
set_option linter.unusedSimpArgs false
set_option maxRecDepth 100000
section
variable {o : Env}
end
section
variable {o : Env}
end
section
variable {o : Env}
def hmL (m : Nat) : List (aa × List Ob) := match m with | 0 => RD | _ => Pe
theorem hmM {m : Nat} (h : (CQ.nT m || CQ.ml m) = true) : m = 0 \/ m = 1 := by
 rcases Bool.or_eq_true_iff.1 h with h | h
 ·exact .inl (bt h)
 ·exact .inr (Eb h)
theorem Z2 : CQ.jC Tryz.prog 0 = some RD := by kernel_rfl
theorem aex : CQ.jC Tryz.prog 1 = some Pe := by kernel_rfl
theorem adt : P9 Tryz.prog CQ (aH (.v 7780)) hmL := ⟨fun m h => by
    rcases hmM h with rfl | rfl
    ·exact Z2
    ·exact aex, by kernel_rfl, fun m => by rcases m with _ | _ <;> rfl, fun _ => rfl, by kernel_rfl, rfl, fun _ => rfl⟩
theorem KX (hu : OU o) (hv : OV o) (hh : OH o) (hj : OJ o) (A : Anchor) : eJ Tryz.prog o A (hmX.x.Ba.cR Tryz.prog) :=
 rf (c := hmX) (by kernel_rfl) ⟨tn hu, E8 hu, vV hu, qO hu, D0 hu, Nd hu, Cl hu, trivial⟩ ⟨Xd hv, YV hh hj, YM, WU, Wy hu hv hh hj, KW hu hh, Oi hu hh, trivial⟩ A
theorem UB (hu : OU o) (hv : OV o) (hh : OH o) (hj : OJ o) : eg Tryz.prog o rC 4 CQ.dB :=
 adt.ok plain mixed (fun o _ _ => kP o) (fun e A he => KX (hu.aE he) (hv.aE he) (hh.aE he) (hj.aE he) A)
  (fun e i m he h hm hk hr hl => by
   rcases hmM hk with rfl | rfl
   ·exact G1 (hu.aE he) (hv.aE he) (hh.aE he) (hj.aE he) hr h hm hl
   ·exact GF (hu.aE he) (hv.aE he) (hh.aE he) (hj.aE he) hr h hl)
end
section
variable {o : Env}
end
section
variable {o : Env}
theorem XW : iw Tryz.prog P6 (.uf 331 (pk [.v 7850])) KP := ⟨by kernel_rfl, by kernel_rfl, rfl, by kernel_rfl, rfl, fun m h => bt h, fun m h => bt h, fun _ => rfl⟩
theorem OY (hu : OU o) (hg : OG o) : eg Tryz.prog o vY 4 P6.dB :=
 XW.ok plain mixed (fun e he h => by simp only [pk, List.foldr, SS, implies_true, (hg.aE he).all]; omega) (fun e A he => bN (c := ⟨[(Kj, Za.bh), (uo, N0.bh)], []⟩) (by kernel_rfl) ⟨M0 (hu.aE he), PN (hu.aE he), trivial⟩ trivial A) (fun e i he h hr hl => Ng (hu.aE he) (hg.aE he) hr hl)
theorem Xs : ON.jC Tryz.prog = some Uh := by kernel_rfl
theorem PA (hu : OU o) (hg : OG o) : eV Tryz.prog o vY ON.bh :=
 cS plain mixed (D := ON) Xs (fun e A he => bN (c := ⟨[], [(vY, 4, P6.dB)]⟩) (by kernel_rfl) trivial ⟨OY (hu.aE he) (hg.aE he), trivial⟩ A) (fun e he h => QT (hg.aE he))
theorem Yz : iw Tryz.prog JT (.uf 334 (pk [.v 7852])) NQ := ⟨by kernel_rfl, by kernel_rfl, rfl, by kernel_rfl, rfl, fun m h => bt h, fun m h => bt h, fun _ => rfl⟩
theorem OL (hu : OU o) (hg : OG o) : eg Tryz.prog o qI 2 JT.dB :=
 Yz.ok plain mixed (fun e he h => by simp only [pk, List.foldr, SS, implies_true, (hg.aE he).all]; omega) (fun e A he => bN (c := ⟨[(lX, Re.bh), (lv, Nk.bh)], []⟩) (by kernel_rfl) ⟨K1 (hu.aE he), Pp (hu.aE he), trivial⟩ trivial A) (fun e i he h hr hl => Lz (hu.aE he) (hg.aE he) hr h hl)
theorem XO : PO.jC Tryz.prog = some Ur := by kernel_rfl
theorem R7 (hu : OU o) (hg : OG o) : eV Tryz.prog o qI PO.bh :=
 cS plain mixed (D := PO) XO (fun e A he => bN (c := ⟨[], [(qI, 2, JT.dB)]⟩) (by kernel_rfl) trivial ⟨OL (hu.aE he) (hg.aE he), trivial⟩ A) (fun e he h => RQ (hg.aE he))
theorem GP (hu : OU o) (hv : OV o) (hh : OH o) (hj : OJ o) (A : Anchor) : eJ Tryz.prog o A (Q8.x.cR Tryz.prog) :=
 bN (c := Q8) (by kernel_rfl) trivial ⟨UB hu hv hh hj, trivial⟩ A
theorem Yh : QZ.jC Tryz.prog = some Vx := by kernel_rfl
theorem Q3 (hu : OU o) (hv : OV o) (hh : OH o) (hj : OJ o) : eV Tryz.prog o wi QZ.bh :=
 cS plain mixed (D := QZ) Yh (fun e A he => GP (hu.aE he) (hv.aE he) (hh.aE he) (hj.aE he) A) (fun e he h => OS (hj.aE he))
end
noncomputable def SU (c : Nat) (d : Dv) : Dv := if c < 200 then LR c d else if c < 260 then Zv c d else if c < 300 then ab6 c d else if c < 330 then adr c d else if c < 340 then acX c d else adN c d
section
variable {o : Env}
theorem FY (h : o.uf = SU) : OU o := fun c d h1 h2 => by rw [h]; exact if_pos h2
theorem W7 (h : o.uf = SU) : OV o := fun c d h1 h2 => by rw [h]; unfold SU; rw [if_neg (by omega), if_pos (by omega)]
theorem Y0 (h : o.uf = SU) : OH o := fun c d h1 h2 => by rw [h]; unfold SU; rw [if_neg (by omega), if_neg (by omega), if_pos (by omega)]
theorem QG (h : o.uf = SU) : OJ o := fun c d h1 h2 => by rw [h]; unfold SU; rw [if_neg (by omega), if_neg (by omega), if_neg (by omega), if_pos (by omega)]
theorem Zb (h : o.uf = SU) : OG o := fun c d h1 h2 => by rw [h]; unfold SU; rw [if_neg (by omega), if_neg (by omega), if_neg (by omega), if_neg (by omega), if_pos (by omega)]
theorem V0 (h : o.uf = SU) : OO o := fun c d h1 h2 => by rw [h]; unfold SU; rw [if_neg (by omega), if_neg (by omega), if_neg (by omega), if_neg (by omega), if_neg (by omega)]
theorem Ym : iw Tryz.prog Lw (aH (.v 7872)) VH := ⟨by kernel_rfl, by kernel_rfl, rfl, by kernel_rfl, rfl, fun m h => bt h, fun m h => bt h, fun _ => rfl⟩
theorem Pq (hq : OO o) : eg Tryz.prog o 4 15 Lw.dB :=
 Ym.ok plain mixed (fun o _ _ => kP o) (fun _ _ _ => cB) (fun e i he h hr hl => P4 (hq.aE he) hr h hl)
theorem XC : iw Tryz.prog M6 (aH (.v 7876)) X5 := ⟨by kernel_rfl, by kernel_rfl, rfl, by kernel_rfl, rfl, fun m h => bt h, fun m h => bt h, fun _ => rfl⟩
theorem Qy (hu : OU o) (hq : OO o) : eg Tryz.prog o 4 23 M6.dB :=
 XC.ok plain mixed (fun o _ _ => kP o) (fun e A he => bN (c := ⟨[(pS, j5.bh), (lK, sq.bh), (rL, soF.bh)], []⟩) (by kernel_rfl) ⟨v7 (hu.aE he), Gk (hu.aE he), WM (hu.aE he), trivial⟩ trivial A)
  (fun e i he h hr hl => PE (hu.aE he) (hq.aE he) hr h hl)
theorem acU : hmR.jC Tryz.prog 0 = some RD := by kernel_rfl
theorem ZW : hmR.jC Tryz.prog 1 = some Pe := by kernel_rfl
theorem ZD : P9 Tryz.prog hmR (aH (.v 7780)) hmL := ⟨fun m h => by
    rcases hmM h with rfl | rfl
    ·exact acU
    ·exact ZW, by kernel_rfl, fun m => by rcases m with _ | _ <;> rfl, fun _ => rfl, by kernel_rfl, rfl, fun _ => rfl⟩
theorem Xf (hu : OU o) (hv : OV o) (hh : OH o) (hj : OJ o) : eg Tryz.prog o rC 4 hmR.dB :=
 ZD.ok plain mixed (fun o _ _ => kP o) (fun e A he => KX (hu.aE he) (hv.aE he) (hh.aE he) (hj.aE he) A)
  (fun e i m he h hm hk hr hl => by
   rcases hmM hk with rfl | rfl
   ·exact G1 (hu.aE he) (hv.aE he) (hh.aE he) (hj.aE he) hr h hm hl
   ·exact GF (hu.aE he) (hv.aE he) (hh.aE he) (hj.aE he) hr h hl)
theorem Pz : HI.jC Tryz.prog = some LZ := by kernel_rfl
theorem NZ (hu : OU o) (hv : OV o) (hh : OH o) (hj : OJ o) : eV Tryz.prog o 10 HI.bh :=
 cS plain mixed (D := HI) Pz (fun e A he => GP (hu.aE he) (hv.aE he) (hh.aE he) (hj.aE he) A) (fun e he h => LL (hj.aE he))
end
theorem R5 : A3 Tryz.prog XP.x 4 S7 [(RL, Oz)] 600 900 = some XS := by kernel_rfl
theorem PF {o : Env} (h : o.uf = SU) (A : Anchor) : eJ Tryz.prog o A (XP.x.cR Tryz.prog) :=
 bN (c := XP) (by kernel_rfl) ⟨PA (FY h) (Zb h), R7 (FY h) (Zb h), Q3 (FY h) (W7 h) (Y0 h) (QG h), NZ (FY h) (W7 h) (Y0 h) (QG h), trivial⟩ ⟨Xf (FY h) (W7 h) (Y0 h) (QG h), Pq (V0 h), Qy (FY h) (V0 h), trivial⟩ A
theorem afW : ownKnob Tryz.prog.godebug = none := by kernel_rfl
theorem Z6 : laidOutB Tryz.prog = true := by kernel_rfl
theorem Bv (H : Type) (enc : TypeId × Value -> H) (W : World) (base : Nat) (args : Array Value) (ds gs : List (DataW H)) (before : List MemPlace)
    (hval : ∀ (j : Nat) t v, Tryz.f4.params[j]? = some t -> args[j]? = some v -> Value.okWide Tryz.prog W .any base t v)
    (hW : DataW.Whole enc Tryz.prog Tryz.f4.params.toList Rows.fnHeapSortsSpec.vars false W args.toList ds gs before) :
    Calls Tryz.prog 4 args W fun e W' => ∃ v, e = .returned v /\ Rows.fnHeapSortsSpec.post enc Tryz.prog Tryz.f4 false true false false W args v W' :=
 AT Z6 (ks := S7) (tb := 4) (by kernel_rfl) (by kernel_rfl) (by kernel_rfl) (by kernel_rfl) rfl
  (fun ds hd => by
   match ds, hd with
   | [d, e], _ => rfl) (fun vs hl cJ => IC plain mixed (by decide) rfl R5 (fun o A hu => PF hu A) (fun o hu => P2 (FY hu) (QG hu) (Zb hu) (V0 hu)) W vs hl cJ) hval hW
theorem Fx (os : Os) (started : os.Started) (H : Type) (enc : TypeId × Value -> H) :
    ReturnsInHanded {} Tryz.checked os 4 .any (Rows.fnHeapSortsSpec.pre6 enc Tryz.prog Tryz.f4 Rows.fnHeapSortsRow.domain false) (Rows.fnHeapSortsSpec.post enc Tryz.prog Tryz.f4 false true false false) := by
 refine returnsInHanded_of_change (C := Tryz.checked) (s := Rows.fnHeapSortsSpec) afW started (by kernel_rfl) Tryz.func4
  (ChangeSpec.witness6 (enc := enc) (C := Tryz.checked) false ⟨#[], #[.slice none 0 0, .bool false], []⟩ 8 (by kernel_rfl) (by kernel_rfl) (by kernel_rfl) (by kernel_rfl)) ?_
 intro W base args ds gs before hval hW _ _; exact Bv H enc W base args ds gs before hval hW
theorem hstProved : Rows.FnHeapSortsSaid :=
 OpenClaim.holds_of_wide 4 Tryz.f4 rfl rfl rfl rfl rfl rfl rfl ⟨rfl, rfl, rfl, rfl, rfl⟩ rfl rfl rfl rfl rfl (by kernel_rfl) Tryz.func4 (by kernel_rfl)
  (of_decide_eq_true (by kernel_rfl)) (by unfold Func.isWrapper; first | (rw [if_pos (by decide +kernel)]; kernel_rfl) | (rw [if_neg (by decide +kernel)]; exact ⟨rfl, rfl⟩))
  (fun os started H enc _ => Fx os started H enc)
end Go.Proofs.YtdlppkhmmclipaaGreat.sxObj
