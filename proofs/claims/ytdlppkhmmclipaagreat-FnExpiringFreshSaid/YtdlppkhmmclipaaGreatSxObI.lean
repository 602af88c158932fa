/-
  A STORE WHOSE OBJECTS EXPIRE: its history, as it is computed.
-/
import Derived.Test.YtdlppkhmmclipaaGreatSxObZ
import Derived.Test.YtdlppkhmmclipaaGreatSxObM
namespace Go.Proofs.YtdlppkhmmclipaaGreat.sxObj
open Go.Sx Go.RowKit Go.Proofs.YtdlppkhmmclipaaGreat
set_option linter.unusedVariables false
def fImEx : Nat := 18
def imA : E := pk [.v 7600, .v 7601, .v 2170]
def imAns : E := .uf 173 (pk [.v 7600, .v 7601])
def imX : Ctr := ⟨[(fObjIn, objInF.funP), (fObjsIn, objsInF.funP), (fMeta, metaF.funP), (fObjOut, objOutF.funP), (fObjsOut, objsOutF.funP), (fKeys, keysF.funP), (fSort, sortP 106)],
  [(fKeysA, 3, zkY.lpP), (fTsList, 5, tlY.lpP), (fTsKeys, 5, tkY.lpP), (fExList, 4, elY.lpP), (fExRep, 4, rqY.lpP), (fTsRep, 6, trY.lpP)]⟩
def imY : LoopY where
  f := fImEx; key := 5; N := 129; r := 2170; base := 165000
  js := [9, 10, 11, 12, 13] ++ rgN 25 128
  hd := fun m => ⟨[(1, .dsl exK (.v 7600)), (5, .ptr 4 (.c 0)), (6, .ifc 137 (.ptr 1 (.c 0))), (7, match m with | 0 => .nilsl | _ => .sl 8 6 (.il 0) (.v 2170)), (8, iS (.v 2170))],
    (match m with | 0 => [] | _ => [(8, .row tStAns 6 (.v 2170) (tcCols stK imAns 0) [])]) ++ exW (.v 7601) (.uf 170 imA) (.uf 216 imA) (.uf 215 imA), 20,
    (match m with | 0 => [(.o2 .ieq (.v 2170) (.il 0), true)] | _ => [ltT (.il 0) (.v 2170)]) ++ leT (.il 0) (.v 2170) :: leT (.v 2170) (lenE (.v 7600)) :: exEnt (.v 7600) (.v 7601)⟩
  ent := fun _ => exEnt (.v 7600) (.v 7601)
  app := fun _ => true
  ok0 := fun m => Nat.beq m 0
  modeL := fun sl => match nth sl 7 with | some .nilsl => .ret 0 | some (.sl ..) => .ret 1 | _ => .fail
  tgt := fun m => Nat.beq m 1
  mf := fun m => match m with | 0 => [(.o2 .ieq (.v 2170) (.il 0), true)] | _ => [ltT (.il 0) (.v 2170)]
  hx := fun _ => ⟨[(1, .top), (5, .top), (6, .top), (7, .dsl stK imAns), (8, .top)], [], 20, []⟩
  xmL := fun _ _ => .ret 0
  exN := fun _ => .exit 0
  exits := [(.bl true, 0)]
  fixed := []
  lt := .o2 .lt (.v 2170) (lenE (.v 7600))
  X := imX.x
  fuel := 3000; np := 400
  params := [7600, 7601]
  kds := [(tStAns, stK), (tIObj, objK), (tStr, strK), (tInt, intK), (tAny, itK)]
end Go.Proofs.YtdlppkhmmclipaaGreat.sxObj
namespace Go.Proofs.YtdlppkhmmclipaaGreat.sxObj
open Go.Sx
set_option linter.unusedVariables false
abbrev oi0 : E := .o2 .ieq (.o2 (.cell 0) (.v 7600) (.v 2170)) (.il 1)
abbrev oi1 : E := .o2 .lt (.v 2170) (.o1 .tlen (.v 7600))
abbrev oi2 : Facts := [(oi1, true)]
abbrev oi3 : Facts := ((oi0, true) : E × Bool) :: oi2
abbrev oi4 : Facts := (((.o2 (.cell 7) (.v 7600) (.v 2170)), true) : E × Bool) :: oi3
abbrev oi5 : E := .uf 173 (.o2 .cel (.v 7600) (.o2 .cel (.v 7601) (.il 0)))
abbrev oi6 : E := .o2 (.cell 0) oi5 (.il 0)
abbrev oi7 : E := .o2 (.cell 1) oi5 (.il 0)
abbrev oi8 : E := .o2 (.cell 2) oi5 (.il 0)
abbrev oi9 : E := .o2 (.cell 3) oi5 (.il 0)
abbrev oi10 : E := .o2 .cel (.v 7600) (.o2 .cel (.v 7601) (.o2 .cel (.v 2170) (.il 0)))
abbrev oi11 : E := .o2 .cel (.v 7600) (.o2 .cel (.v 7601) (.o2 .cel (.o2 .add (.v 2170) (.il 1)) (.il 0)))
abbrev oi12 : List Ob := [(.e (.o2 .seq (.uf 216 oi10) (.uf 216 oi11)))]
abbrev oi13 : List Ob := ((.p (.uf 215 oi10) (.uf 215 oi11)) : Ob) :: oi12
abbrev oi14 : List Ob := ((.e (.o2 .ieq (.uf 170 oi10) (.uf 170 oi11))) : Ob) :: oi13
abbrev oi15 : List Ob := ((.e (.o2 .seq (.sl []) (.o2 (.cell 4) oi5 (.il 0)))) : Ob) :: ((.t (.il 0) (.o2 (.cell 5) oi5 (.il 0))) : Ob) :: oi14
abbrev oi16 : List Ob := ((.t (.il 0) oi9) : Ob) :: oi15
abbrev oi17 : List Ob := ((.e (.o2 .beq (.bl false) oi7)) : Ob) :: ((.t (.il 0) oi8) : Ob) :: oi16
abbrev oi18 : List Ob := ((.e (.o2 .ieq (.il 1) oi6)) : Ob) :: oi17
abbrev oi19 : List Ob := ((.e (.uf 110 (.o2 .cel (.o2 (.cell 1) (.v 7600) (.v 2170)) (.o2 .cel (.o2 (.cell 2) (.v 7600) (.v 2170)) (.o2 .cel (.o2 (.cell 5) (.v 7600) (.v 2170)) (.il 0)))))) : Ob) :: ((.e (.uf 110 (.o2 .cel (.o2 (.cell 1) (.v 7600) (.v 2170)) (.o2 .cel (.o2 (.cell 2) (.v 7600) (.v 2170)) (.o2 .cel (.o2 (.cell 5) (.v 7600) (.v 2170)) (.il 0)))))) : Ob) :: oi18
abbrev oi20 : E := .uf 100 (.o2 .cel (.o2 (.cell 1) (.v 7600) (.v 2170)) (.o2 .cel (.o2 (.cell 2) (.v 7600) (.v 2170)) (.il 0)))
abbrev oi21 : E := .o2 (.mf .s) (.uf 215 oi10) oi20
abbrev oi22 : E := .o2 .le (.il 0) oi21
abbrev oi23 : Facts := (((.o2 (.cell 7) (.v 7600) (.v 2170)), false) : E × Bool) :: oi3
abbrev oi24 : Facts := ((oi22, true) : E × Bool) :: oi23
abbrev oi25 : List Ob := ((.e (.o2 .ieq (.uf 170 oi10) (.uf 170 oi11))) : Ob) :: ((.p (.o2 (.mp .s) (.uf 215 oi10) (.o2 .cel oi20 (.o2 .cel (.o2 .cel (.o2 .cel (.o2 (.cell 1) (.v 7600) (.v 2170)) (.o2 .cel (.o2 (.cell 2) (.v 7600) (.v 2170)) (.o2 .cel (.o2 (.cell 3) (.v 7600) (.v 2170)) (.o2 .cel (.o2 (.cell 4) (.v 7600) (.v 2170)) (.o2 .cel (.o2 (.cell 5) (.v 7600) (.v 2170)) (.o2 .cel (.o2 (.cell 6) (.v 7600) (.v 2170)) (.o2 .cel (.o2 (.cell 7) (.v 7600) (.v 2170)) (.o2 .cel (.o2 (.cell 8) (.v 7600) (.v 2170)) (.o2 .cel (.il 0) (.il 0)))))))))) (.o2 .cel (.bl true) (.o2 .cel (.uf 170 oi10) (.o2 .cel oi20 (.il 0))))) (.il 0)))) (.uf 215 oi11)) : Ob) :: oi12
abbrev oi26 : List Ob := ((.e (.uf 110 (.o2 .cel (.o2 (.cell 1) (.v 7600) (.v 2170)) (.o2 .cel (.o2 (.cell 2) (.v 7600) (.v 2170)) (.o2 .cel (.o2 (.cell 5) (.v 7600) (.v 2170)) (.il 0)))))) : Ob) :: ((.e (.uf 110 (.o2 .cel (.o2 (.cell 1) (.v 7600) (.v 2170)) (.o2 .cel (.o2 (.cell 2) (.v 7600) (.v 2170)) (.o2 .cel (.o2 (.cell 5) (.v 7600) (.v 2170)) (.il 0)))))) : Ob) :: ((.e (.o2 .ieq (.il 0) oi6)) : Ob) :: ((.e (.o2 .beq (.bl false) oi7)) : Ob) :: ((.t (.il 0) oi8) : Ob) :: ((.t (.il 0) oi9) : Ob) :: ((.e (.o2 .seq (.sl []) (.o2 (.cell 4) oi5 (.il 0)))) : Ob) :: ((.t (.il 0) (.o2 (.cell 5) oi5 (.il 0))) : Ob) :: oi25
abbrev oi27 : Facts := ((oi22, false) : E × Bool) :: oi23
abbrev oi28 : E := .o2 .ieq (.o2 (.cell 0) (.v 7600) (.v 2170)) (.il 2)
abbrev oi29 : Facts := ((oi0, false) : E × Bool) :: oi2
abbrev oi30 : Facts := ((oi28, true) : E × Bool) :: oi29
abbrev oi31 : Facts := (((.o2 (.cell 7) (.v 7600) (.v 2170)), true) : E × Bool) :: oi30
abbrev oi32 : Facts := (((.o2 (.cell 7) (.v 7600) (.v 2170)), false) : E × Bool) :: oi30
abbrev oi33 : Facts := ((oi22, true) : E × Bool) :: oi32
abbrev oi34 : List Ob := [(.e (.o2 .seq (.o2 (.cell 4) (.v 7600) (.v 2170)) (.uf 216 oi11)))]
abbrev oi35 : List Ob := ((.e (.o2 .ieq (.uf 170 oi10) (.uf 170 oi11))) : Ob) :: ((.p (.o2 (.md .s) (.uf 215 oi10) oi20) (.uf 215 oi11)) : Ob) :: oi34
abbrev oi36 : Facts := ((oi22, false) : E × Bool) :: oi32
abbrev oi37 : List Ob := ((.e (.o2 .ieq (.uf 170 oi10) (.uf 170 oi11))) : Ob) :: ((.p (.uf 215 oi10) (.uf 215 oi11)) : Ob) :: oi34
abbrev oi38 : E := .o2 .cel (.o2 (.cell 9) (.v 7600) (.v 2170)) (.il 0)
abbrev oi39 : E := .o2 .cel (.uf 101 oi38) (.il 0)
abbrev oi40 : E := .o2 .ieq (.o2 (.cell 0) (.v 7600) (.v 2170)) (.il 3)
abbrev oi41 : Facts := ((oi28, false) : E × Bool) :: oi29
abbrev oi42 : Facts := ((oi40, true) : E × Bool) :: oi41
abbrev oi43 : Facts := (((.uf 211 oi39), true) : E × Bool) :: oi42
abbrev oi44 : Facts := (((.uf 211 oi39), false) : E × Bool) :: oi42
abbrev oi45 : List Ob := [(.e (.o2 .ieq (.uf 170 oi10) (.uf 170 oi11))), (.p (.uf 214 (.o2 .cel (.uf 101 oi38) (.o2 .cel (.uf 170 oi10) (.il 0)))) (.uf 215 oi11)), (.e (.o2 .seq (.sl []) (.uf 216 oi11)))]
abbrev oi46 : E := .o2 .ieq (.o2 (.cell 0) (.v 7600) (.v 2170)) (.il 4)
abbrev oi47 : Facts := ((oi40, false) : E × Bool) :: oi41
abbrev oi48 : Facts := ((oi46, true) : E × Bool) :: oi47
abbrev oi49 : Facts := (((.o2 (.cell 7) (.v 7600) (.v 2170)), true) : E × Bool) :: oi48
abbrev oi50 : E := .o2 (.cell 1) (.uf 215 oi10) oi21
abbrev oi51 : E := .o2 .sub (.uf 170 oi10) (.o2 (.cell 2) oi50 (.il 0))
abbrev oi52 : E := .o2 .lt (.v 7601) oi51
abbrev oi53 : E := .o2 (.cell 1) oi50 (.il 0)
abbrev oi54 : Facts := (((.o2 (.cell 7) (.v 7600) (.v 2170)), false) : E × Bool) :: oi48
abbrev oi55 : Facts := ((oi22, true) : E × Bool) :: oi54
abbrev oi56 : Facts := (((.o2 .lt (.il 0) (.v 7601)), true) : E × Bool) :: oi55
abbrev oi57 : Facts := ((oi53, true) : E × Bool) :: oi56
abbrev oi58 : Facts := ((oi52, true) : E × Bool) :: oi57
abbrev oi59 : List Ob := ((.e (.o2 .ieq (.uf 170 oi10) (.uf 170 oi11))) : Ob) :: ((.p (.o2 (.md .s) (.uf 215 oi10) oi20) (.uf 215 oi11)) : Ob) :: oi12
abbrev oi60 : List Ob := ((.e (.uf 110 (.o2 .cel (.o2 (.cell 1) (.v 7600) (.v 2170)) (.o2 .cel (.o2 (.cell 2) (.v 7600) (.v 2170)) (.o2 .cel (.o2 (.cell 5) (.v 7600) (.v 2170)) (.il 0)))))) : Ob) :: ((.e (.uf 110 (.o2 .cel (.o2 (.cell 1) (.v 7600) (.v 2170)) (.o2 .cel (.o2 (.cell 2) (.v 7600) (.v 2170)) (.o2 .cel (.o2 (.cell 5) (.v 7600) (.v 2170)) (.il 0)))))) : Ob) :: ((.e (.o2 .ieq (.il 0) oi6)) : Ob) :: ((.e (.o2 .beq (.bl false) oi7)) : Ob) :: ((.t (.il 0) oi8) : Ob) :: ((.t (.il 0) oi9) : Ob) :: ((.e (.o2 .seq (.sl []) (.o2 (.cell 4) oi5 (.il 0)))) : Ob) :: ((.t (.il 0) (.o2 (.cell 5) oi5 (.il 0))) : Ob) :: oi59
abbrev oi61 : Facts := ((oi52, false) : E × Bool) :: oi57
abbrev oi62 : E := .o2 (.cell 0) oi50 (.il 0)
abbrev oi63 : E := .o2 (.cell 0) oi62 (.il 0)
abbrev oi64 : E := .o2 (.cell 1) oi62 (.il 0)
abbrev oi65 : E := .o2 (.cell 4) oi62 (.il 0)
abbrev oi66 : E := .o2 .cel oi63 (.o2 .cel oi64 (.o2 .cel (.o2 (.cell 2) oi62 (.il 0)) (.o2 .cel (.o2 (.cell 3) oi62 (.il 0)) (.o2 .cel oi65 (.o2 .cel (.o2 (.cell 5) oi62 (.il 0)) (.o2 .cel (.o2 (.cell 6) oi62 (.il 0)) (.o2 .cel (.o2 (.cell 7) oi62 (.il 0)) (.il 0))))))))
abbrev oi67 : List Ob := ((.e (.uf 110 (.o2 .cel (.o2 (.cell 1) (.v 7600) (.v 2170)) (.o2 .cel (.o2 (.cell 2) (.v 7600) (.v 2170)) (.o2 .cel (.o2 (.cell 5) (.v 7600) (.v 2170)) (.il 0)))))) : Ob) :: ((.e (.uf 110 (.o2 .cel (.o2 (.cell 1) (.v 7600) (.v 2170)) (.o2 .cel (.o2 (.cell 2) (.v 7600) (.v 2170)) (.o2 .cel (.o2 (.cell 5) (.v 7600) (.v 2170)) (.il 0)))))) : Ob) :: ((.e (.o2 .ieq (.il 0) oi6)) : Ob) :: ((.e (.o2 .beq (.bl true) oi7)) : Ob) :: ((.t oi66 oi8) : Ob) :: oi16
abbrev oi68 : Facts := ((oi53, false) : E × Bool) :: oi56
abbrev oi69 : Facts := (((.o2 .lt (.il 0) (.v 7601)), false) : E × Bool) :: oi55
abbrev oi70 : Facts := ((oi22, false) : E × Bool) :: oi54
abbrev oi71 : List Ob := ((.e (.o2 .ieq (.il 0) oi6)) : Ob) :: oi17
abbrev oi72 : E := .o2 .ieq (.o2 (.cell 0) (.v 7600) (.v 2170)) (.il 5)
abbrev oi73 : Facts := ((oi46, false) : E × Bool) :: oi47
abbrev oi74 : Facts := ((oi72, true) : E × Bool) :: oi73
abbrev oi75 : E := .o2 .cel (.uf 215 oi10) (.il 0)
abbrev oi76 : E := .uf 106 (.o2 .cel (.uf 200 oi75) (.il 0))
abbrev oi77 : E := .o1 .tlen (.uf 215 oi10)
abbrev oi78 : E := .o2 .ttake oi76 oi77
abbrev oi79 : E := .o2 .cel oi78 oi75
abbrev oi80 : E := .o2 .cel (.uf 202 oi79) (.o2 .cel (.uf 215 oi10) (.o2 .cel (.uf 170 oi10) (.o2 .cel (.v 7601) (.il 0))))
abbrev oi81 : E := .o2 .cel (.uf 205 oi80) (.il 0)
abbrev oi82 : E := .o2 .cel (.uf 202 oi79) (.o2 .cel (.uf 215 oi10) (.o2 .cel (.uf 170 oi10) (.o2 .cel (.v 7601) (.o2 .cel (.il 0) (.il 0)))))
abbrev oi83 : E := .o1 .tlen (.uf 202 oi79)
abbrev oi84 : E := .o1 .tlen oi78
abbrev oi85 : List Ob := ((.e (.o2 .ieq (.uf 170 oi10) (.uf 170 oi11))) : Ob) :: ((.p (.uf 207 oi80) (.uf 215 oi11)) : Ob) :: oi12
abbrev oi86 : E := .o2 .ieq (.o2 (.cell 0) (.v 7600) (.v 2170)) (.il 6)
abbrev oi87 : Facts := ((oi72, false) : E × Bool) :: oi73
abbrev oi88 : Facts := ((oi86, true) : E × Bool) :: oi87
abbrev oi89 : E := .uf 106 (.o2 .cel oi78 (.il 0))
abbrev oi90 : E := .o2 .ieq (.o2 (.cell 0) (.v 7600) (.v 2170)) (.il 7)
abbrev oi91 : Facts := ((oi86, false) : E × Bool) :: oi87
abbrev oi92 : Facts := ((oi90, true) : E × Bool) :: oi91
abbrev oi93 : E := .o2 .add (.uf 170 oi10) (.o2 .mx (.il 0) (.o2 .mn (.o2 (.cell 10) (.v 7600) (.v 2170)) (.il 1125899906842624)))
abbrev oi94 : List Ob := ((.e (.o2 .ieq oi93 (.uf 170 oi11))) : Ob) :: oi13
abbrev oi95 : Facts := ((oi90, false) : E × Bool) :: oi91
abbrev oi96 : Facts := [(oi1, false)]
def im0L : List (Facts × List Ob) :=
  [(oi4,
    oi19),
   (oi24,
    oi26),
   (oi27,
    oi26),
   (oi31,
    oi19),
   (oi33,
    (((.e (.uf 110 (.o2 .cel (.o2 (.cell 1) (.v 7600) (.v 2170)) (.o2 .cel (.o2 (.cell 2) (.v 7600) (.v 2170)) (.o2 .cel (.o2 (.cell 5) (.v 7600) (.v 2170)) (.il 0)))))) : Ob) :: ((.e (.uf 110 (.o2 .cel (.o2 (.cell 1) (.v 7600) (.v 2170)) (.o2 .cel (.o2 (.cell 2) (.v 7600) (.v 2170)) (.o2 .cel (.o2 (.cell 5) (.v 7600) (.v 2170)) (.il 0)))))) : Ob) :: ((.e (.o2 .ieq (.il 0) oi6)) : Ob) :: ((.e (.o2 .beq (.bl false) oi7)) : Ob) :: ((.t (.il 0) oi8) : Ob) :: ((.t (.il 0) oi9) : Ob) :: ((.e (.o2 .seq (.sl []) (.o2 (.cell 4) oi5 (.il 0)))) : Ob) :: ((.t (.il 0) (.o2 (.cell 5) oi5 (.il 0))) : Ob) :: oi35)),
   (oi36,
    (((.e (.uf 110 (.o2 .cel (.o2 (.cell 1) (.v 7600) (.v 2170)) (.o2 .cel (.o2 (.cell 2) (.v 7600) (.v 2170)) (.o2 .cel (.o2 (.cell 5) (.v 7600) (.v 2170)) (.il 0)))))) : Ob) :: ((.e (.uf 110 (.o2 .cel (.o2 (.cell 1) (.v 7600) (.v 2170)) (.o2 .cel (.o2 (.cell 2) (.v 7600) (.v 2170)) (.o2 .cel (.o2 (.cell 5) (.v 7600) (.v 2170)) (.il 0)))))) : Ob) :: ((.e (.o2 .ieq (.il 0) oi6)) : Ob) :: ((.e (.o2 .beq (.bl false) oi7)) : Ob) :: ((.t (.il 0) oi8) : Ob) :: ((.t (.il 0) oi9) : Ob) :: ((.e (.o2 .seq (.sl []) (.o2 (.cell 4) oi5 (.il 0)))) : Ob) :: ((.t (.il 0) (.o2 (.cell 5) oi5 (.il 0))) : Ob) :: oi37)),
   (oi43,
    (((.t (.il 0) (.uf 210 (.o2 .cel (.uf 101 oi38) (.o2 .cel (.uf 170 oi10) (.o2 .cel (.il 0) (.il 0)))))) : Ob) :: ((.e (.o2 .le (.o1 .tlen (.uf 101 oi38)) (.il 1000000))) : Ob) :: ((.e (.uf 213 oi39)) : Ob) :: ((.e (.o2 .le (.o1 .tlen (.o2 (.cell 9) (.v 7600) (.v 2170))) (.il 2147483647))) : Ob) :: ((.e (.uf 111 oi38)) : Ob) :: oi18)),
   (oi44,
    (((.t (.il 0) (.uf 210 (.o2 .cel (.uf 101 oi38) (.o2 .cel (.uf 170 oi10) (.o2 .cel (.il 0) (.il 0)))))) : Ob) :: ((.e (.o2 .le (.o1 .tlen (.uf 101 oi38)) (.il 1000000))) : Ob) :: ((.e (.uf 213 oi39)) : Ob) :: ((.e (.o2 .le (.o1 .tlen (.o2 (.cell 9) (.v 7600) (.v 2170))) (.il 2147483647))) : Ob) :: ((.e (.uf 111 oi38)) : Ob) :: ((.e (.o2 .ieq (.il 0) oi6)) : Ob) :: ((.e (.o2 .beq (.bl false) oi7)) : Ob) :: ((.t (.il 0) oi8) : Ob) :: ((.t (.il 0) oi9) : Ob) :: ((.e (.o2 .seq (.sl []) (.o2 (.cell 4) oi5 (.il 0)))) : Ob) :: ((.t (.il 0) (.o2 (.cell 5) oi5 (.il 0))) : Ob) :: oi45)),
   (oi49,
    oi19),
   (oi58,
    (((.e (.o2 .le oi51 (.il 9223372036854775807))) : Ob) :: oi60)),
   (oi61,
    (((.e (.uf 110 (.o2 .cel oi63 (.o2 .cel oi64 (.o2 .cel oi65 (.il 0)))))) : Ob) :: ((.e (.o2 .le (.il (-9223372036854775808)) oi51)) : Ob) :: oi67)),
   (oi68,
    oi60),
   (oi69,
    (((.e (.uf 110 (.o2 .cel oi63 (.o2 .cel oi64 (.o2 .cel oi65 (.il 0)))))) : Ob) :: oi67)),
   (oi70,
    (((.e (.uf 110 (.o2 .cel (.o2 (.cell 1) (.v 7600) (.v 2170)) (.o2 .cel (.o2 (.cell 2) (.v 7600) (.v 2170)) (.o2 .cel (.o2 (.cell 5) (.v 7600) (.v 2170)) (.il 0)))))) : Ob) :: ((.e (.uf 110 (.o2 .cel (.o2 (.cell 1) (.v 7600) (.v 2170)) (.o2 .cel (.o2 (.cell 2) (.v 7600) (.v 2170)) (.o2 .cel (.o2 (.cell 5) (.v 7600) (.v 2170)) (.il 0)))))) : Ob) :: oi71)),
   (oi74,
    (((.e (.o2 .le (.o1 .tlen (.uf 205 oi80)) (.il 1000000))) : Ob) :: ((.e (.uf 113 oi81)) : Ob) :: ((.p (.uf 215 oi10) (.uf 204 oi82)) : Ob) :: ((.e (.o2 .ieq (.uf 206 oi82) (.il 0))) : Ob) :: ((.e (.o2 .ieq (.il 0) (.uf 206 oi82))) : Ob) :: ((.e (.uf 208 oi75)) : Ob) :: ((.e (.o2 .le (.uf 170 oi10) (.il 1125899906842624))) : Ob) :: ((.e (.o2 .le (.il 0) (.uf 170 oi10))) : Ob) :: ((.e (.o2 .le oi83 (.il 1000000))) : Ob) :: ((.e (.o2 .le oi83 (.il 2147483648))) : Ob) :: ((.e (.o2 .ieq oi77 oi84)) : Ob) :: ((.e (.uf 203 oi79)) : Ob) :: ((.e (.o2 .le oi84 (.il 1000000))) : Ob) :: ((.e (.o2 .le oi77 (.o1 .tlen oi76))) : Ob) :: ((.e (.o2 .le oi77 (.il 4611686018427387903))) : Ob) :: ((.e (.o2 .ieq oi77 (.o1 .tlen (.uf 200 oi75)))) : Ob) :: ((.e (.uf 201 oi75)) : Ob) :: ((.e (.o2 .le oi77 (.il 1000000))) : Ob) :: ((.e (.o2 .le oi77 (.il 2147483648))) : Ob) :: ((.e (.o2 .le oi77 (.il 2147483648))) : Ob) :: ((.e (.o2 .ieq (.il 0) oi6)) : Ob) :: ((.e (.o2 .beq (.bl false) oi7)) : Ob) :: ((.t (.uf 102 oi81) oi8) : Ob) :: ((.t (.il 0) oi9) : Ob) :: ((.e (.o2 .seq (.sl []) (.o2 (.cell 4) oi5 (.il 0)))) : Ob) :: ((.t (.il 0) (.o2 (.cell 5) oi5 (.il 0))) : Ob) :: oi85)),
   (oi88,
    (((.e (.o2 .le oi84 (.il 1000000))) : Ob) :: ((.e (.o2 .ieq oi77 oi84)) : Ob) :: ((.e (.o2 .le oi84 (.il 1000000))) : Ob) :: ((.e (.o2 .le oi77 (.o1 .tlen oi76))) : Ob) :: ((.e (.o2 .le oi77 (.il 4611686018427387903))) : Ob) :: ((.e (.o2 .ieq oi77 (.o1 .tlen (.uf 200 oi75)))) : Ob) :: ((.e (.uf 201 oi75)) : Ob) :: ((.e (.o2 .le oi77 (.il 1000000))) : Ob) :: ((.e (.o2 .le oi77 (.il 2147483648))) : Ob) :: ((.e (.o2 .le oi77 (.il 2147483648))) : Ob) :: ((.e (.o2 .ieq (.il 0) oi6)) : Ob) :: ((.e (.o2 .beq (.bl false) oi7)) : Ob) :: ((.t (.il 0) oi8) : Ob) :: ((.t oi89 oi9) : Ob) :: oi15)),
   (oi92,
    (((.e (.o2 .le oi93 (.il 9223372036854775807))) : Ob) :: ((.e (.o2 .le (.il (-9223372036854775808)) oi93)) : Ob) :: ((.e (.o2 .ieq (.il 0) oi6)) : Ob) :: ((.e (.o2 .beq (.bl false) oi7)) : Ob) :: ((.t (.il 0) oi8) : Ob) :: ((.t (.il 0) oi9) : Ob) :: ((.e (.o2 .seq (.sl []) (.o2 (.cell 4) oi5 (.il 0)))) : Ob) :: ((.t (.il 0) (.o2 (.cell 5) oi5 (.il 0))) : Ob) :: oi94)),
   (oi95,
    oi71),
   (oi96,
    [(.t (.il 0) oi5)])]
abbrev oi97 : E := .o2 (.cell 0) oi5 (.v 2170)
abbrev oi98 : E := .o2 (.cell 1) oi5 (.v 2170)
abbrev oi99 : E := .o2 (.cell 2) oi5 (.v 2170)
abbrev oi100 : E := .o2 (.cell 3) oi5 (.v 2170)
abbrev oi101 : List Ob := ((.e (.o2 .seq (.sl []) (.o2 (.cell 4) oi5 (.v 2170)))) : Ob) :: ((.t (.il 0) (.o2 (.cell 5) oi5 (.v 2170))) : Ob) :: oi14
abbrev oi102 : List Ob := ((.t (.il 0) oi100) : Ob) :: oi101
abbrev oi103 : List Ob := ((.e (.o2 .beq (.bl false) oi98)) : Ob) :: ((.t (.il 0) oi99) : Ob) :: oi102
abbrev oi104 : List Ob := ((.e (.o2 .ieq (.il 1) oi97)) : Ob) :: oi103
abbrev oi105 : List Ob := ((.e (.uf 110 (.o2 .cel (.o2 (.cell 1) (.v 7600) (.v 2170)) (.o2 .cel (.o2 (.cell 2) (.v 7600) (.v 2170)) (.o2 .cel (.o2 (.cell 5) (.v 7600) (.v 2170)) (.il 0)))))) : Ob) :: ((.e (.uf 110 (.o2 .cel (.o2 (.cell 1) (.v 7600) (.v 2170)) (.o2 .cel (.o2 (.cell 2) (.v 7600) (.v 2170)) (.o2 .cel (.o2 (.cell 5) (.v 7600) (.v 2170)) (.il 0)))))) : Ob) :: oi104
abbrev oi106 : List Ob := ((.e (.uf 110 (.o2 .cel (.o2 (.cell 1) (.v 7600) (.v 2170)) (.o2 .cel (.o2 (.cell 2) (.v 7600) (.v 2170)) (.o2 .cel (.o2 (.cell 5) (.v 7600) (.v 2170)) (.il 0)))))) : Ob) :: ((.e (.uf 110 (.o2 .cel (.o2 (.cell 1) (.v 7600) (.v 2170)) (.o2 .cel (.o2 (.cell 2) (.v 7600) (.v 2170)) (.o2 .cel (.o2 (.cell 5) (.v 7600) (.v 2170)) (.il 0)))))) : Ob) :: ((.e (.o2 .ieq (.il 0) oi97)) : Ob) :: ((.e (.o2 .beq (.bl false) oi98)) : Ob) :: ((.t (.il 0) oi99) : Ob) :: ((.t (.il 0) oi100) : Ob) :: ((.e (.o2 .seq (.sl []) (.o2 (.cell 4) oi5 (.v 2170)))) : Ob) :: ((.t (.il 0) (.o2 (.cell 5) oi5 (.v 2170))) : Ob) :: oi25
abbrev oi107 : List Ob := ((.e (.uf 110 (.o2 .cel (.o2 (.cell 1) (.v 7600) (.v 2170)) (.o2 .cel (.o2 (.cell 2) (.v 7600) (.v 2170)) (.o2 .cel (.o2 (.cell 5) (.v 7600) (.v 2170)) (.il 0)))))) : Ob) :: ((.e (.uf 110 (.o2 .cel (.o2 (.cell 1) (.v 7600) (.v 2170)) (.o2 .cel (.o2 (.cell 2) (.v 7600) (.v 2170)) (.o2 .cel (.o2 (.cell 5) (.v 7600) (.v 2170)) (.il 0)))))) : Ob) :: ((.e (.o2 .ieq (.il 0) oi97)) : Ob) :: ((.e (.o2 .beq (.bl false) oi98)) : Ob) :: ((.t (.il 0) oi99) : Ob) :: ((.t (.il 0) oi100) : Ob) :: ((.e (.o2 .seq (.sl []) (.o2 (.cell 4) oi5 (.v 2170)))) : Ob) :: ((.t (.il 0) (.o2 (.cell 5) oi5 (.v 2170))) : Ob) :: oi59
abbrev oi108 : List Ob := ((.e (.uf 110 (.o2 .cel (.o2 (.cell 1) (.v 7600) (.v 2170)) (.o2 .cel (.o2 (.cell 2) (.v 7600) (.v 2170)) (.o2 .cel (.o2 (.cell 5) (.v 7600) (.v 2170)) (.il 0)))))) : Ob) :: ((.e (.uf 110 (.o2 .cel (.o2 (.cell 1) (.v 7600) (.v 2170)) (.o2 .cel (.o2 (.cell 2) (.v 7600) (.v 2170)) (.o2 .cel (.o2 (.cell 5) (.v 7600) (.v 2170)) (.il 0)))))) : Ob) :: ((.e (.o2 .ieq (.il 0) oi97)) : Ob) :: ((.e (.o2 .beq (.bl true) oi98)) : Ob) :: ((.t oi66 oi99) : Ob) :: oi102
abbrev oi109 : List Ob := ((.e (.o2 .ieq (.il 0) oi97)) : Ob) :: oi103
def im1L : List (Facts × List Ob) :=
  [(oi4,
    oi105),
   (oi24,
    oi106),
   (oi27,
    oi106),
   (oi31,
    oi105),
   (oi33,
    (((.e (.uf 110 (.o2 .cel (.o2 (.cell 1) (.v 7600) (.v 2170)) (.o2 .cel (.o2 (.cell 2) (.v 7600) (.v 2170)) (.o2 .cel (.o2 (.cell 5) (.v 7600) (.v 2170)) (.il 0)))))) : Ob) :: ((.e (.uf 110 (.o2 .cel (.o2 (.cell 1) (.v 7600) (.v 2170)) (.o2 .cel (.o2 (.cell 2) (.v 7600) (.v 2170)) (.o2 .cel (.o2 (.cell 5) (.v 7600) (.v 2170)) (.il 0)))))) : Ob) :: ((.e (.o2 .ieq (.il 0) oi97)) : Ob) :: ((.e (.o2 .beq (.bl false) oi98)) : Ob) :: ((.t (.il 0) oi99) : Ob) :: ((.t (.il 0) oi100) : Ob) :: ((.e (.o2 .seq (.sl []) (.o2 (.cell 4) oi5 (.v 2170)))) : Ob) :: ((.t (.il 0) (.o2 (.cell 5) oi5 (.v 2170))) : Ob) :: oi35)),
   (oi36,
    (((.e (.uf 110 (.o2 .cel (.o2 (.cell 1) (.v 7600) (.v 2170)) (.o2 .cel (.o2 (.cell 2) (.v 7600) (.v 2170)) (.o2 .cel (.o2 (.cell 5) (.v 7600) (.v 2170)) (.il 0)))))) : Ob) :: ((.e (.uf 110 (.o2 .cel (.o2 (.cell 1) (.v 7600) (.v 2170)) (.o2 .cel (.o2 (.cell 2) (.v 7600) (.v 2170)) (.o2 .cel (.o2 (.cell 5) (.v 7600) (.v 2170)) (.il 0)))))) : Ob) :: ((.e (.o2 .ieq (.il 0) oi97)) : Ob) :: ((.e (.o2 .beq (.bl false) oi98)) : Ob) :: ((.t (.il 0) oi99) : Ob) :: ((.t (.il 0) oi100) : Ob) :: ((.e (.o2 .seq (.sl []) (.o2 (.cell 4) oi5 (.v 2170)))) : Ob) :: ((.t (.il 0) (.o2 (.cell 5) oi5 (.v 2170))) : Ob) :: oi37)),
   (oi43,
    (((.t (.il 0) (.uf 210 (.o2 .cel (.uf 101 oi38) (.o2 .cel (.uf 170 oi10) (.o2 .cel (.il 0) (.il 0)))))) : Ob) :: ((.e (.o2 .le (.o1 .tlen (.uf 101 oi38)) (.il 1000000))) : Ob) :: ((.e (.uf 213 oi39)) : Ob) :: ((.e (.o2 .le (.o1 .tlen (.o2 (.cell 9) (.v 7600) (.v 2170))) (.il 2147483647))) : Ob) :: ((.e (.uf 111 oi38)) : Ob) :: oi104)),
   (oi44,
    (((.t (.il 0) (.uf 210 (.o2 .cel (.uf 101 oi38) (.o2 .cel (.uf 170 oi10) (.o2 .cel (.il 0) (.il 0)))))) : Ob) :: ((.e (.o2 .le (.o1 .tlen (.uf 101 oi38)) (.il 1000000))) : Ob) :: ((.e (.uf 213 oi39)) : Ob) :: ((.e (.o2 .le (.o1 .tlen (.o2 (.cell 9) (.v 7600) (.v 2170))) (.il 2147483647))) : Ob) :: ((.e (.uf 111 oi38)) : Ob) :: ((.e (.o2 .ieq (.il 0) oi97)) : Ob) :: ((.e (.o2 .beq (.bl false) oi98)) : Ob) :: ((.t (.il 0) oi99) : Ob) :: ((.t (.il 0) oi100) : Ob) :: ((.e (.o2 .seq (.sl []) (.o2 (.cell 4) oi5 (.v 2170)))) : Ob) :: ((.t (.il 0) (.o2 (.cell 5) oi5 (.v 2170))) : Ob) :: oi45)),
   (oi49,
    oi105),
   (oi58,
    (((.e (.o2 .le oi51 (.il 9223372036854775807))) : Ob) :: oi107)),
   (oi61,
    (((.e (.uf 110 (.o2 .cel oi63 (.o2 .cel oi64 (.o2 .cel oi65 (.il 0)))))) : Ob) :: ((.e (.o2 .le (.il (-9223372036854775808)) oi51)) : Ob) :: oi108)),
   (oi68,
    oi107),
   (oi69,
    (((.e (.uf 110 (.o2 .cel oi63 (.o2 .cel oi64 (.o2 .cel oi65 (.il 0)))))) : Ob) :: oi108)),
   (oi70,
    (((.e (.uf 110 (.o2 .cel (.o2 (.cell 1) (.v 7600) (.v 2170)) (.o2 .cel (.o2 (.cell 2) (.v 7600) (.v 2170)) (.o2 .cel (.o2 (.cell 5) (.v 7600) (.v 2170)) (.il 0)))))) : Ob) :: ((.e (.uf 110 (.o2 .cel (.o2 (.cell 1) (.v 7600) (.v 2170)) (.o2 .cel (.o2 (.cell 2) (.v 7600) (.v 2170)) (.o2 .cel (.o2 (.cell 5) (.v 7600) (.v 2170)) (.il 0)))))) : Ob) :: oi109)),
   (oi74,
    (((.e (.o2 .le (.o1 .tlen (.uf 205 oi80)) (.il 1000000))) : Ob) :: ((.e (.uf 113 oi81)) : Ob) :: ((.p (.uf 215 oi10) (.uf 204 oi82)) : Ob) :: ((.e (.o2 .ieq (.uf 206 oi82) (.il 0))) : Ob) :: ((.e (.o2 .ieq (.il 0) (.uf 206 oi82))) : Ob) :: ((.e (.uf 208 oi75)) : Ob) :: ((.e (.o2 .le (.uf 170 oi10) (.il 1125899906842624))) : Ob) :: ((.e (.o2 .le (.il 0) (.uf 170 oi10))) : Ob) :: ((.e (.o2 .le oi83 (.il 1000000))) : Ob) :: ((.e (.o2 .le oi83 (.il 2147483648))) : Ob) :: ((.e (.o2 .ieq oi77 oi84)) : Ob) :: ((.e (.uf 203 oi79)) : Ob) :: ((.e (.o2 .le oi84 (.il 1000000))) : Ob) :: ((.e (.o2 .le oi77 (.o1 .tlen oi76))) : Ob) :: ((.e (.o2 .le oi77 (.il 4611686018427387903))) : Ob) :: ((.e (.o2 .ieq oi77 (.o1 .tlen (.uf 200 oi75)))) : Ob) :: ((.e (.uf 201 oi75)) : Ob) :: ((.e (.o2 .le oi77 (.il 1000000))) : Ob) :: ((.e (.o2 .le oi77 (.il 2147483648))) : Ob) :: ((.e (.o2 .le oi77 (.il 2147483648))) : Ob) :: ((.e (.o2 .ieq (.il 0) oi97)) : Ob) :: ((.e (.o2 .beq (.bl false) oi98)) : Ob) :: ((.t (.uf 102 oi81) oi99) : Ob) :: ((.t (.il 0) oi100) : Ob) :: ((.e (.o2 .seq (.sl []) (.o2 (.cell 4) oi5 (.v 2170)))) : Ob) :: ((.t (.il 0) (.o2 (.cell 5) oi5 (.v 2170))) : Ob) :: oi85)),
   (oi88,
    (((.e (.o2 .le oi84 (.il 1000000))) : Ob) :: ((.e (.o2 .ieq oi77 oi84)) : Ob) :: ((.e (.o2 .le oi84 (.il 1000000))) : Ob) :: ((.e (.o2 .le oi77 (.o1 .tlen oi76))) : Ob) :: ((.e (.o2 .le oi77 (.il 4611686018427387903))) : Ob) :: ((.e (.o2 .ieq oi77 (.o1 .tlen (.uf 200 oi75)))) : Ob) :: ((.e (.uf 201 oi75)) : Ob) :: ((.e (.o2 .le oi77 (.il 1000000))) : Ob) :: ((.e (.o2 .le oi77 (.il 2147483648))) : Ob) :: ((.e (.o2 .le oi77 (.il 2147483648))) : Ob) :: ((.e (.o2 .ieq (.il 0) oi97)) : Ob) :: ((.e (.o2 .beq (.bl false) oi98)) : Ob) :: ((.t (.il 0) oi99) : Ob) :: ((.t oi89 oi100) : Ob) :: oi101)),
   (oi92,
    (((.e (.o2 .le oi93 (.il 9223372036854775807))) : Ob) :: ((.e (.o2 .le (.il (-9223372036854775808)) oi93)) : Ob) :: ((.e (.o2 .ieq (.il 0) oi97)) : Ob) :: ((.e (.o2 .beq (.bl false) oi98)) : Ob) :: ((.t (.il 0) oi99) : Ob) :: ((.t (.il 0) oi100) : Ob) :: ((.e (.o2 .seq (.sl []) (.o2 (.cell 4) oi5 (.v 2170)))) : Ob) :: ((.t (.il 0) (.o2 (.cell 5) oi5 (.v 2170))) : Ob) :: oi94)),
   (oi95,
    oi109),
   (oi96,
    [(.e (.o2 .le (.v 2170) (.o1 .tlen oi5))), (.t (.o2 .ttake oi5 (.v 2170)) oi5)])]
end Go.Proofs.YtdlppkhmmclipaaGreat.sxObj
namespace Go.Proofs.YtdlppkhmmclipaaGreat.sxObj
open Go.Sx Go.RowKit Go.Proofs.YtdlppkhmmclipaaGreat
set_option linter.unusedVariables false
set_option linter.unusedSimpArgs false
set_option maxRecDepth 100000
section
variable {ttl : Int} {p : Row} {s : Sp}
theorem st_b (h : (cc p 0).I = 1 \/ (cc p 0).I = 2 \/ (cc p 0).I = 4) (hb : (cc p 7).B = true) : spStep ttl p s = (s, ansRow 1 false [] []) := by
  unfold spStep; rw [if_pos ⟨h, hb⟩]
theorem st_g (h : ¬ (((cc p 0).I = 1 \/ (cc p 0).I = 2 \/ (cc p 0).I = 4) /\ (cc p 7).B = true)) {x : Sp × Row} (hx : (if (cc p 0).I = 1 then (⟨s.now, withT (.t s.S) (opKey p) (opObj p), mput .s s.M [.s (opKey p), .i s.now]⟩, ansRow 0 false [] [])
  else if (cc p 0).I = 2 then (⟨s.now, withoutT (.t s.S) (opKey p), s.M⟩, ansRow 0 false [] [])
  else if (cc p 0).I = 3 then
    (if dec (gAll (qb (cc p 9)) (cc p 9).T.length) = true then (⟨s.now, repsT (cc p 9) (cc p 9).T.length, atT (.t ((repsT (cc p 9) (cc p 9).T.length).map keyRow)) (.t s.M) (.i s.now) (repsT (cc p 9) (cc p 9).T.length).length⟩, ansRow 0 false [] [])
    else (s, ansRow 1 false [] []))
  else if (cc p 0).I = 4 then (⟨s.now, alST (.t s.S) (.t s.M) s.now ttl (.s (opKey p)) false s.S.length, s.M⟩, ansRow 0 (decide (0 < (alOutT (.t s.S) (.t s.M) s.now ttl (.s (opKey p)) false).length)) (alOutT (.t s.S) (.t s.M) s.now ttl (.s (opKey p)) false) [])
  else if (cc p 0).I = 5 then (⟨s.now, alST (.t s.S) (.t s.M) s.now ttl (.s ⟨[].toArray⟩) true s.S.length, s.M⟩, ansRow 0 false (alOutT (.t s.S) (.t s.M) s.now ttl (.s ⟨[].toArray⟩) true) [])
  else if (cc p 0).I = 6 then (s, ansRow 0 false [] (s.S.map keyRow))
  else if (cc p 0).I = 7 then (⟨s.now + (cc p 10).I, s.S, s.M⟩, ansRow 0 false [] [])
  else (s, ansRow 0 false [] []) : Sp × Row) = x) : spStep ttl p s = x := by
  unfold spStep; rw [if_neg h]; exact hx
theorem st_n {p : Row} (hb : (cc p 7).B = false) : ¬ (((cc p 0).I = 1 \/ (cc p 0).I = 2 \/ (cc p 0).I = 4) /\ (cc p 7).B = true) := fun q => by have := q.2; rw [hb] at this; cases this
theorem st_1 (h : (cc p 0).I = 1) (hb : (cc p 7).B = false) : spStep ttl p s = (⟨s.now, withT (.t s.S) (opKey p) (opObj p), mput .s s.M [.s (opKey p), .i s.now]⟩, ansRow 0 false [] []) :=
  st_g (st_n hb) (by rw [if_pos h])
theorem st_2 (h : (cc p 0).I = 2) (hb : (cc p 7).B = false) : spStep ttl p s = (⟨s.now, withoutT (.t s.S) (opKey p), s.M⟩, ansRow 0 false [] []) :=
  st_g (st_n hb) (by rw [if_neg (by omega), if_pos h])
theorem st_3 (h : (cc p 0).I = 3) (hg : gAll (qb (cc p 9)) (cc p 9).T.length) : spStep ttl p s = (⟨s.now, repsT (cc p 9) (cc p 9).T.length, atT (.t ((repsT (cc p 9) (cc p 9).T.length).map keyRow)) (.t s.M) (.i s.now) (repsT (cc p 9) (cc p 9).T.length).length⟩, ansRow 0 false [] []) :=
  st_g (by omega) (by rw [if_neg (by omega), if_neg (by omega), if_pos h, if_pos (dec_iff.2 hg)])
theorem st_3b (h : (cc p 0).I = 3) (hg : ¬ gAll (qb (cc p 9)) (cc p 9).T.length) : spStep ttl p s = (s, ansRow 1 false [] []) :=
  st_g (by omega) (by rw [if_neg (by omega), if_neg (by omega), if_pos h, if_neg fun q => hg (dec_iff.1 q)])
theorem st_4 (h : (cc p 0).I = 4) (hb : (cc p 7).B = false) : spStep ttl p s = (⟨s.now, alST (.t s.S) (.t s.M) s.now ttl (.s (opKey p)) false s.S.length, s.M⟩, ansRow 0 (decide (0 < (alOutT (.t s.S) (.t s.M) s.now ttl (.s (opKey p)) false).length)) (alOutT (.t s.S) (.t s.M) s.now ttl (.s (opKey p)) false) []) :=
  st_g (st_n hb) (by rw [if_neg (by omega), if_neg (by omega), if_neg (by omega), if_pos h])
theorem st_5 (h : (cc p 0).I = 5) : spStep ttl p s = (⟨s.now, alST (.t s.S) (.t s.M) s.now ttl (.s ⟨[].toArray⟩) true s.S.length, s.M⟩, ansRow 0 false (alOutT (.t s.S) (.t s.M) s.now ttl (.s ⟨[].toArray⟩) true) []) :=
  st_g (by omega) (by rw [if_neg (by omega), if_neg (by omega), if_neg (by omega), if_neg (by omega), if_pos h])
theorem st_6 (h : (cc p 0).I = 6) : spStep ttl p s = (s, ansRow 0 false [] (s.S.map keyRow)) :=
  st_g (by omega) (by rw [if_neg (by omega), if_neg (by omega), if_neg (by omega), if_neg (by omega), if_neg (by omega), if_pos h])
theorem st_7 (h : (cc p 0).I = 7) : spStep ttl p s = (⟨s.now + (cc p 10).I, s.S, s.M⟩, ansRow 0 false [] []) :=
  st_g (by omega) (by rw [if_neg (by omega), if_neg (by omega), if_neg (by omega), if_neg (by omega), if_neg (by omega), if_neg (by omega), if_pos h])
theorem st_0 (h : (cc p 0).I < 1 \/ 7 < (cc p 0).I) : spStep ttl p s = (s, ansRow 0 false [] []) :=
  st_g (by omega) (by rw [if_neg (by omega), if_neg (by omega), if_neg (by omega), if_neg (by omega), if_neg (by omega), if_neg (by omega), if_neg (by omega)])
end
theorem items_len {S M : List Row} : (itemsT S M).length = S.length := List.length_map ..
section
variable {o : Env}
theorem rv_same {ops : Dv} {r : Nat} (h2 : ¬ ((cc (row ops r) 0).I = 2 /\ (cc (row ops r) 7).B = false)) (h3 : ¬ ((cc (row ops r) 0).I = 3 /\ gAll (qb (cc (row ops r) 9)) (cc (row ops r) 9).T.length)) : exRv ops (r + 1) = exRv ops r := by
  show (if _ then _ else _) = _
  rw [if_neg h2, if_neg fun q => h3 ⟨q.1, dec_iff.1 q.2⟩]
theorem rv_2 {ops : Dv} {r : Nat} (h : (cc (row ops r) 0).I = 2) (h2 : (cc (row ops r) 7).B = false) : exRv ops (r + 1) = (cc (row ops r) 4).S := by
  show (if _ then _ else _) = _
  rw [if_pos ⟨h, h2⟩]
theorem rv_3 {ops : Dv} {r : Nat} (h : (cc (row ops r) 0).I = 3) (h2 : gAll (qb (cc (row ops r) 9)) (cc (row ops r) 9).T.length) : exRv ops (r + 1) = ⟨[].toArray⟩ := by
  show (if _ then _ else _) = _
  rw [if_neg (by omega), if_pos ⟨h, dec_iff.2 h2⟩]
theorem get_of {S M : List Row} (h : Inc S) {k : ByteArray} (hh : 0 <= mfindI .s (.s k) (itemsT S M)) : ∃ x ∈ S, kl x = k.toList /\ row (.t (itemsT S M)) (mfindI .s (.s k) (itemsT S M)).toNat = ent M x := by
  obtain ⟨x, hx, e⟩ := has_items.1 hh; exact ⟨x, hx, e, row_items h hx e⟩
structure LsOk (S M : List Row) (now ttl : Int) : Prop where
  keys : (sortT ((itemsT S M).map firstRow)).take S.length = S.map keyRow
  n : (itemsT S M).length = S.length
  kn : (sortT ((itemsT S M).map firstRow)).length = S.length
  fn : ((itemsT S M).map firstRow).length = S.length
  out : elOutT (.t (lsT S M)) (.t (itemsT S M)) now ttl = (alOutT (.t S) (.t M) now ttl (.s ⟨[].toArray⟩) true).map inRow
  rise : Rising (alOutT (.t S) (.t M) now ttl (.s ⟨[].toArray⟩) true)
  same : ((alOutT (.t S) (.t M) now ttl (.s ⟨[].toArray⟩) true).map inRow).map outRow = alOutT (.t S) (.t M) now ttl (.s ⟨[].toArray⟩) true
  ln : (alOutT (.t S) (.t M) now ttl (.s ⟨[].toArray⟩) true).length <= S.length
theorem ls_ok {S M : List Row} {now ttl : Int} (h : Good S) : LsOk S M now ttl := by
  have e : sortT ((itemsT S M).map firstRow) = S.map keyRow := by rw [first_items, sort_keys h.i]
  refine ⟨?_, items_len, ?_, ?_, list_out h.i, (good_out h).rise, out_in fun r hr => h.e r (alOut_mem hr), ?_⟩
  . rw [e, take_all (by rw [List.length_map]; exact Nat.le_refl _)]
  . rw [e, List.length_map]
  . rw [List.length_map, items_len]
  . rw [alOut_eq]; exact List.length_filter_le _ _
theorem im1_all (hu : OU o) (hv : OV o) {r : Nat} (hr : o.v 2170 = .i r) (hent : (imY.ent 0).Hold o) (hle : (r : Int) <= ((lenE (.v 7600)).den o).I) : AllL o im1L := by
  simp only [imY, exEnt, leT, lenE, pk, List.foldr, SS, implies_true, hu.u142, hu.u174, dec_iff] at hent hle; obtain ⟨f1, f2, t1, t2, hlen⟩ := hent; have hin := sp_in (ttl := (o.v 7601).I) (fun n hn => op_in f1 f2 hn) (by omega) r (by omega)
  obtain ⟨i1, i2, i3, i4, i5⟩ := hin; obtain ⟨hg, hm⟩ := sp_good (ops := o.v 7600) (ttl := (o.v 7601).I) r; simp only [im1L, allL_cons, allL_nil, and_true]
  and_intros
  all_goals intro h
  all_goals simp only [SS, implies_true, hr, hu.u100, hu.u101, hu.u102, hu.u106, hu.u110, hu.u111, hu.u113, hu.u170, hu.u173, hv.u200, hv.u201, hv.u202, hv.u203, hv.u204, hv.u205, hv.u206, hv.u207, hv.u208, hv.u210, hv.u211, hv.u213, hv.u214, hv.u215, hv.u216, dec_iff, dec_no, Classical.not_not] at h ⊢
  rotate_right
  . exact ⟨by rw [ans_len]; omega, take_all (by rw [ans_len]; omega)⟩
  all_goals have hl : r < (o.v 7600).T.length := by omega
  all_goals obtain ⟨pk, p2, p3, p4, p5⟩ := op_in f1 f2 hl
  all_goals have K : okR (cc (row (o.v 7600) r) 1) (cc (row (o.v 7600) r) 2) (cc (row (o.v 7600) r) 5) := pk
  all_goals have hA := ans_row (ttl := (o.v 7601).I) hl
  all_goals try (conv at hA => lhs; rw [hr0])
  all_goals have hS : spSt (o.v 7600) (o.v 7601).I (r + 1) = (spStep (o.v 7601).I (row (o.v 7600) r) (spSt (o.v 7600) (o.v 7601).I r)).1 := rfl
  all_goals first
    | have hR := rv_3 (ops := o.v 7600) (r := r) (by omega) (all_qa.1 h.1)
    | have hR := rv_same (ops := o.v 7600) (r := r) (fun q => by have := q.1; omega) (fun q => h.1 (all_qa.2 q.2))
    | have hR := rv_2 (ops := o.v 7600) (r := r) (by omega) h.2.1
    | have hR := rv_same (ops := o.v 7600) (r := r) (fun q => by have := q.1; omega) (fun q => by have := q.1; omega)
    | have hR := rv_same (ops := o.v 7600) (r := r) (fun q => by rw [h.1] at q; cases q.2) (fun q => by have := q.1; omega)
  all_goals rw [hR]
  all_goals generalize spSt (o.v 7600) (o.v 7601).I r = s at *
  all_goals generalize row (o.v 7600) r = p at *
  . rw [st_b (by omega) h.1] at hA hS; rw [hA, hS]
    exact ⟨K, K, rfl, rfl, rfl, rfl, rfl, rfl, rfl, List.Perm.refl _, rfl⟩
  . rw [st_1 (by omega) h.2.1] at hA hS; rw [hA, hS]
    exact ⟨K, K, rfl, rfl, rfl, rfl, rfl, rfl, rfl, items_add hg hm (x := opObj p) (kS_good h.2.1), rfl⟩
  . rw [st_1 (by omega) h.2.1] at hA hS; rw [hA, hS]
    exact ⟨K, K, rfl, rfl, rfl, rfl, rfl, rfl, rfl, items_add hg hm (x := opObj p) (kS_good h.2.1), rfl⟩
  . rw [st_b (by omega) h.1] at hA hS; rw [hA, hS]
    exact ⟨K, K, rfl, rfl, rfl, rfl, rfl, rfl, rfl, List.Perm.refl _, rfl⟩
  . rw [st_2 (by omega) h.2.1] at hA hS; rw [hA, hS]
    exact ⟨K, K, rfl, rfl, rfl, rfl, rfl, rfl, rfl, items_del hg, rfl⟩
  . rw [st_2 (by omega) h.2.1] at hA hS; rw [hA, hS]
    exact ⟨K, K, rfl, rfl, rfl, rfl, rfl, rfl, rfl, items_same hg h.1, rfl⟩
  . rw [st_3b (by omega) fun q => h.1 (all_qa.2 q)] at hA hS; rw [hA, hS]
    exact ⟨rfl, by rw [List.length_map]; omega, anys_in p2, by omega, p2, rfl, rfl, rfl, rfl, rfl, rfl, rfl, List.Perm.refl _, rfl⟩
  . rw [st_3 (by omega) (all_qa.1 h.1)] at hA hS; rw [hA, hS]
    exact ⟨rfl, by rw [List.length_map]; omega, anys_in p2, by omega, p2, rfl, rfl, rfl, rfl, rfl, rfl, rfl, by rw [List.length_map]; exact items_reps hm (all_qa.1 h.1), rfl⟩
  . rw [st_b (by omega) h.1] at hA hS; rw [hA, hS]
    exact ⟨K, K, rfl, rfl, rfl, rfl, rfl, rfl, rfl, List.Perm.refl _, rfl⟩
  . obtain ⟨h1, h2, h3, h4, h5, h6, _⟩ := h; obtain ⟨x, hx, ex, er⟩ := get_of hg.i h4; rw [er] at h1 h2; rw [er]; have hat := atV_ok (k := kS x) i3; have hgone : goneP (.t s.M) s.now (o.v 7601).I (keyB (cc p 1).S (cc p 2).S) := ⟨h3, by rw [<- kS_of ex]; exact h1⟩
    obtain ⟨g1, g2⟩ := get_gone hg (M := s.M) hgone; rw [st_4 h6 h5] at hA hS; rw [show alOutT (.t s.S) (.t s.M) s.now (o.v 7601).I (.s (opKey p)) false = [] from g1] at hA; rw [hA, hS]; exact ⟨by show s.now - atV (.t s.M) (kS x) <= _; omega, K, K, rfl, rfl, rfl, rfl, rfl, rfl, rfl, g2, by trivial⟩
  . obtain ⟨h1, h2, h3, h4, h5, h6, _⟩ := h; obtain ⟨x, hx, ex, er⟩ := get_of hg.i h4; rw [er] at h1 h2; simp only [er]; have hat := atV_ok (k := kS x) i3; have hgone : ¬ goneP (.t s.M) s.now (o.v 7601).I (keyB (cc p 1).S (cc p 2).S) := fun q => h1 (by have := q.2; rw [<- kS_of ex] at this; exact this)
    obtain ⟨g1, g2⟩ := get_keep hg (M := s.M) hx ex hgone; rw [st_4 h6 h5] at hA hS; rw [show alOutT (.t s.S) (.t s.M) s.now (o.v 7601).I (.s (opKey p)) false = [x] from g1] at hA; rw [hA, hS]; exact ⟨i1 x hx, by show _ <= s.now - atV (.t s.M) (kS x); omega, K, K, rfl, rfl, congrArg (fun z => [z]) (hg.e x hx), rfl, rfl, rfl, rfl, g2, by trivial⟩
  . obtain ⟨h2, h3, h4, h5, h6, _⟩ := h; obtain ⟨x, hx, ex, er⟩ := get_of hg.i h4; rw [er] at h2; cases h2
  . obtain ⟨h3, h4, h5, h6, _⟩ := h; obtain ⟨x, hx, ex, er⟩ := get_of hg.i h4; simp only [er]; have hgone : ¬ goneP (.t s.M) s.now (o.v 7601).I (keyB (cc p 1).S (cc p 2).S) := fun q => h3 q.1; obtain ⟨g1, g2⟩ := get_keep hg (M := s.M) hx ex hgone; rw [st_4 h6 h5] at hA hS; rw [show alOutT (.t s.S) (.t s.M) s.now (o.v 7601).I (.s (opKey p)) false = [x] from g1] at hA; rw [hA, hS]; exact ⟨i1 x hx, K, K, rfl, rfl, congrArg (fun z => [z]) (hg.e x hx), rfl, rfl, rfl, rfl, g2, by trivial⟩
  . obtain ⟨h4, h5, h6, _⟩ := h; obtain ⟨g1, g2⟩ := get_none hg (M := s.M) (now := s.now) (ttl := (o.v 7601).I) h4; rw [st_4 h6 h5] at hA hS; rw [show alOutT (.t s.S) (.t s.M) s.now (o.v 7601).I (.s (opKey p)) false = [] from g1] at hA; rw [hA, hS]; exact ⟨K, K, rfl, rfl, rfl, rfl, rfl, rfl, rfl, g2, by trivial⟩
  . obtain ⟨l1, l2, l3, l4, l5, l6, l7, l8⟩ := ls_ok (M := s.M) (now := s.now) (ttl := (o.v 7601).I) hg; have l9 := list_keep (M := s.M) (now := s.now) (ttl := (o.v 7601).I) hg; have l10 : (lsT s.S s.M).length = s.S.length := ls_len; rw [st_5 (by omega)] at hA hS
    rw [hA, hS]; simp only [l1, list_eq hg.i, l5, l7, l2, l3, l4, List.length_map, l10]
    repeat' refine And.intro ?_ ?_
    all_goals first
      | rfl | trivial | omega
      | exact l6.1 | exact l6.2
      | exact fun x hx => i1 x (alOut_mem hx)
      | exact en_times i3
      | exact all_in
      | exact apart_of (uniq_items hg.i)
      | exact l9
      | exact List.Perm.refl _
  . obtain ⟨l1, l2, l3, l4, l5, l6, l7, l8⟩ := ls_ok (M := s.M) (now := s.now) (ttl := (o.v 7601).I) hg; rw [st_6 (by omega)] at hA hS
    rw [hA, hS]; simp only [l1, l2, l3, l4, List.length_map, sort_keys hg.i]
    repeat' refine And.intro ?_ ?_
    all_goals first
      | rfl | trivial | omega
      | exact apart_of (uniq_items hg.i)
      | exact List.Perm.refl _
  . rw [st_7 (by omega)] at hA hS
    have e1 : ¬ (1125899906842624 : Int) < (cc p 10).I := by omega
    have e2 : (if (cc p 10).I > 0 then (cc p 10).I else 0) = (cc p 10).I := by split <;> omega
    rw [hA, hS, if_neg e1, e2]; exact ⟨by omega, by omega, rfl, rfl, rfl, rfl, rfl, rfl, rfl, List.Perm.refl _, rfl⟩
  . rw [st_0 (by omega)] at hA hS; rw [hA, hS]
    exact ⟨rfl, rfl, rfl, rfl, rfl, rfl, rfl, List.Perm.refl _, rfl⟩
theorem im0_all (hu : OU o) (hv : OV o) {r : Nat} (hr : o.v 2170 = .i r) (hent : (imY.ent 0).Hold o) (hmf : (imY.mf 0).Hold o) (hle : (r : Int) <= ((lenE (.v 7600)).den o).I) : AllL o im0L := by
  have hmf : Facts.Hold o [(.o2 .ieq (.v 2170) (.il 0), true)] := hmf; simp only [SS, implies_true, hr] at hmf; have hr0 : r = 0 := by omega
  simp only [imY, exEnt, leT, lenE, pk, List.foldr, SS, implies_true, hu.u142, hu.u174, dec_iff] at hent hle; obtain ⟨f1, f2, t1, t2, hlen⟩ := hent; have hin := sp_in (ttl := (o.v 7601).I) (fun n hn => op_in f1 f2 hn) (by omega) r (by omega)
  obtain ⟨i1, i2, i3, i4, i5⟩ := hin; obtain ⟨hg, hm⟩ := sp_good (ops := o.v 7600) (ttl := (o.v 7601).I) r; simp only [im0L, allL_cons, allL_nil, and_true]
  and_intros
  all_goals intro h
  all_goals simp only [SS, implies_true, hr, hu.u100, hu.u101, hu.u102, hu.u106, hu.u110, hu.u111, hu.u113, hu.u170, hu.u173, hv.u200, hv.u201, hv.u202, hv.u203, hv.u204, hv.u205, hv.u206, hv.u207, hv.u208, hv.u210, hv.u211, hv.u213, hv.u214, hv.u215, hv.u216, dec_iff, dec_no, Classical.not_not] at h ⊢
  rotate_right
  . have : (spAnsT (o.v 7600) (o.v 7601).I).length = 0 := by rw [ans_len]; omega
    exact (List.length_eq_zero_iff.1 this).symm
  all_goals have hl : r < (o.v 7600).T.length := by omega
  all_goals obtain ⟨pk, p2, p3, p4, p5⟩ := op_in f1 f2 hl
  all_goals have K : okR (cc (row (o.v 7600) r) 1) (cc (row (o.v 7600) r) 2) (cc (row (o.v 7600) r) 5) := pk
  all_goals have hA := ans_row (ttl := (o.v 7601).I) hl
  all_goals try (conv at hA => lhs; rw [hr0])
  all_goals have hS : spSt (o.v 7600) (o.v 7601).I (r + 1) = (spStep (o.v 7601).I (row (o.v 7600) r) (spSt (o.v 7600) (o.v 7601).I r)).1 := rfl
  all_goals first
    | have hR := rv_3 (ops := o.v 7600) (r := r) (by omega) (all_qa.1 h.1)
    | have hR := rv_same (ops := o.v 7600) (r := r) (fun q => by have := q.1; omega) (fun q => h.1 (all_qa.2 q.2))
    | have hR := rv_2 (ops := o.v 7600) (r := r) (by omega) h.2.1
    | have hR := rv_same (ops := o.v 7600) (r := r) (fun q => by have := q.1; omega) (fun q => by have := q.1; omega)
    | have hR := rv_same (ops := o.v 7600) (r := r) (fun q => by rw [h.1] at q; cases q.2) (fun q => by have := q.1; omega)
  all_goals rw [hR]
  all_goals generalize spSt (o.v 7600) (o.v 7601).I r = s at *
  all_goals generalize row (o.v 7600) r = p at *
  . rw [st_b (by omega) h.1] at hA hS; rw [hA, hS]
    exact ⟨K, K, rfl, rfl, rfl, rfl, rfl, rfl, rfl, List.Perm.refl _, rfl⟩
  . rw [st_1 (by omega) h.2.1] at hA hS; rw [hA, hS]
    exact ⟨K, K, rfl, rfl, rfl, rfl, rfl, rfl, rfl, items_add hg hm (x := opObj p) (kS_good h.2.1), rfl⟩
  . rw [st_1 (by omega) h.2.1] at hA hS; rw [hA, hS]
    exact ⟨K, K, rfl, rfl, rfl, rfl, rfl, rfl, rfl, items_add hg hm (x := opObj p) (kS_good h.2.1), rfl⟩
  . rw [st_b (by omega) h.1] at hA hS; rw [hA, hS]
    exact ⟨K, K, rfl, rfl, rfl, rfl, rfl, rfl, rfl, List.Perm.refl _, rfl⟩
  . rw [st_2 (by omega) h.2.1] at hA hS; rw [hA, hS]
    exact ⟨K, K, rfl, rfl, rfl, rfl, rfl, rfl, rfl, items_del hg, rfl⟩
  . rw [st_2 (by omega) h.2.1] at hA hS; rw [hA, hS]
    exact ⟨K, K, rfl, rfl, rfl, rfl, rfl, rfl, rfl, items_same hg h.1, rfl⟩
  . rw [st_3b (by omega) fun q => h.1 (all_qa.2 q)] at hA hS; rw [hA, hS]
    exact ⟨rfl, by rw [List.length_map]; omega, anys_in p2, by omega, p2, rfl, rfl, rfl, rfl, rfl, rfl, rfl, List.Perm.refl _, rfl⟩
  . rw [st_3 (by omega) (all_qa.1 h.1)] at hA hS; rw [hA, hS]
    exact ⟨rfl, by rw [List.length_map]; omega, anys_in p2, by omega, p2, rfl, rfl, rfl, rfl, rfl, rfl, rfl, by rw [List.length_map]; exact items_reps hm (all_qa.1 h.1), rfl⟩
  . rw [st_b (by omega) h.1] at hA hS; rw [hA, hS]
    exact ⟨K, K, rfl, rfl, rfl, rfl, rfl, rfl, rfl, List.Perm.refl _, rfl⟩
  . obtain ⟨h1, h2, h3, h4, h5, h6, _⟩ := h; obtain ⟨x, hx, ex, er⟩ := get_of hg.i h4; rw [er] at h1 h2; rw [er]; have hat := atV_ok (k := kS x) i3; have hgone : goneP (.t s.M) s.now (o.v 7601).I (keyB (cc p 1).S (cc p 2).S) := ⟨h3, by rw [<- kS_of ex]; exact h1⟩
    obtain ⟨g1, g2⟩ := get_gone hg (M := s.M) hgone; rw [st_4 h6 h5] at hA hS; rw [show alOutT (.t s.S) (.t s.M) s.now (o.v 7601).I (.s (opKey p)) false = [] from g1] at hA; rw [hA, hS]; exact ⟨by show s.now - atV (.t s.M) (kS x) <= _; omega, K, K, rfl, rfl, rfl, rfl, rfl, rfl, rfl, g2, by trivial⟩
  . obtain ⟨h1, h2, h3, h4, h5, h6, _⟩ := h; obtain ⟨x, hx, ex, er⟩ := get_of hg.i h4; rw [er] at h1 h2; simp only [er]; have hat := atV_ok (k := kS x) i3; have hgone : ¬ goneP (.t s.M) s.now (o.v 7601).I (keyB (cc p 1).S (cc p 2).S) := fun q => h1 (by have := q.2; rw [<- kS_of ex] at this; exact this)
    obtain ⟨g1, g2⟩ := get_keep hg (M := s.M) hx ex hgone; rw [st_4 h6 h5] at hA hS; rw [show alOutT (.t s.S) (.t s.M) s.now (o.v 7601).I (.s (opKey p)) false = [x] from g1] at hA; rw [hA, hS]; exact ⟨i1 x hx, by show _ <= s.now - atV (.t s.M) (kS x); omega, K, K, rfl, rfl, congrArg (fun z => [z]) (hg.e x hx), rfl, rfl, rfl, rfl, g2, by trivial⟩
  . obtain ⟨h2, h3, h4, h5, h6, _⟩ := h; obtain ⟨x, hx, ex, er⟩ := get_of hg.i h4; rw [er] at h2; cases h2
  . obtain ⟨h3, h4, h5, h6, _⟩ := h; obtain ⟨x, hx, ex, er⟩ := get_of hg.i h4; simp only [er]; have hgone : ¬ goneP (.t s.M) s.now (o.v 7601).I (keyB (cc p 1).S (cc p 2).S) := fun q => h3 q.1; obtain ⟨g1, g2⟩ := get_keep hg (M := s.M) hx ex hgone; rw [st_4 h6 h5] at hA hS; rw [show alOutT (.t s.S) (.t s.M) s.now (o.v 7601).I (.s (opKey p)) false = [x] from g1] at hA; rw [hA, hS]; exact ⟨i1 x hx, K, K, rfl, rfl, congrArg (fun z => [z]) (hg.e x hx), rfl, rfl, rfl, rfl, g2, by trivial⟩
  . obtain ⟨h4, h5, h6, _⟩ := h; obtain ⟨g1, g2⟩ := get_none hg (M := s.M) (now := s.now) (ttl := (o.v 7601).I) h4; rw [st_4 h6 h5] at hA hS; rw [show alOutT (.t s.S) (.t s.M) s.now (o.v 7601).I (.s (opKey p)) false = [] from g1] at hA; rw [hA, hS]; exact ⟨K, K, rfl, rfl, rfl, rfl, rfl, rfl, rfl, g2, by trivial⟩
  . obtain ⟨l1, l2, l3, l4, l5, l6, l7, l8⟩ := ls_ok (M := s.M) (now := s.now) (ttl := (o.v 7601).I) hg; have l9 := list_keep (M := s.M) (now := s.now) (ttl := (o.v 7601).I) hg; have l10 : (lsT s.S s.M).length = s.S.length := ls_len; rw [st_5 (by omega)] at hA hS
    rw [hA, hS]; simp only [l1, list_eq hg.i, l5, l7, l2, l3, l4, List.length_map, l10]
    repeat' refine And.intro ?_ ?_
    all_goals first
      | rfl | trivial | omega
      | exact l6.1 | exact l6.2
      | exact fun x hx => i1 x (alOut_mem hx)
      | exact en_times i3
      | exact all_in
      | exact apart_of (uniq_items hg.i)
      | exact l9
      | exact List.Perm.refl _
  . obtain ⟨l1, l2, l3, l4, l5, l6, l7, l8⟩ := ls_ok (M := s.M) (now := s.now) (ttl := (o.v 7601).I) hg; rw [st_6 (by omega)] at hA hS
    rw [hA, hS]; simp only [l1, l2, l3, l4, List.length_map, sort_keys hg.i]
    repeat' refine And.intro ?_ ?_
    all_goals first
      | rfl | trivial | omega
      | exact apart_of (uniq_items hg.i)
      | exact List.Perm.refl _
  . rw [st_7 (by omega)] at hA hS
    have e1 : ¬ (1125899906842624 : Int) < (cc p 10).I := by omega
    have e2 : (if (cc p 10).I > 0 then (cc p 10).I else 0) = (cc p 10).I := by split <;> omega
    rw [hA, hS, if_neg e1, e2]; exact ⟨by omega, by omega, rfl, rfl, rfl, rfl, rfl, rfl, rfl, List.Perm.refl _, rfl⟩
  . rw [st_0 (by omega)] at hA hS; rw [hA, hS]
    exact ⟨rfl, rfl, rfl, rfl, rfl, rfl, rfl, List.Perm.refl _, rfl⟩
end
section
variable {o : Env}
def imL (m : Nat) : List (Facts × List Ob) := match m with | 0 => im0L | _ => im1L
theorem imM {m : Nat} (h : (imY.ok0 m || imY.tgt m) = true) : m = 0 \/ m = 1 := by
  rcases Bool.or_eq_true_iff.1 h with h | h
  . exact .inl (m0_of h)
  . exact .inr (m1_of h)
theorem imY_0 : imY.obl Tryz.prog 0 = some im0L := by kernel_rfl
theorem imY_1 : imY.obl Tryz.prog 1 = some im1L := by kernel_rfl
theorem imY_c : CntM Tryz.prog imY (lenE (.v 7600)) imL := ⟨fun m h => by
    rcases imM h with rfl | rfl
    . exact imY_0
    . exact imY_1, by kernel_rfl, fun m => by rcases m with _ | _ <;> rfl, fun _ => rfl, by kernel_rfl, rfl, fun _ => rfl⟩
theorem imX_ok (hu : OU o) (hv : OV o) (A : Anchor) : ExtOk Tryz.prog o A (imX.x.toExt Tryz.prog) :=
  ctr_ok (c := imX) (by kernel_rfl) ⟨objInF_ok hu, objsInF_ok hu, metaF_ok hu, objOutF_ok hu, objsOutF_ok hu, keysF_ok hu, sortC_ok hu, trivial⟩ ⟨zkY_ok hv, tlY_ok hv, tkY_ok, elY_ok hv, rqY_ok hu hv, trY_ok, trivial⟩ A
theorem imY_ok (hu : OU o) (hv : OV o) : LpOk Tryz.prog o fImEx 5 imY.lpP :=
  imY_c.ok plain mixed (fun o _ _ => nn_len o) (fun e A he => imX_ok (hu.like he) (hv.like he) A)
    (fun e i m he h hm hk hr hl => by
      rcases imM hk with rfl | rfl
      . exact im0_all (hu.like he) (hv.like he) hr h hm hl
      . exact im1_all (hu.like he) (hv.like he) hr h hl)
end
end Go.Proofs.YtdlppkhmmclipaaGreat.sxObj

