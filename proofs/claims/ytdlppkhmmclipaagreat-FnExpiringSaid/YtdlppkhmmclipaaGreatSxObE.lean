/-
  A STORE WHOSE OBJECTS EXPIRE: the contracts of the model's loops.
-/
import Derived.Test.YtdlppkhmmclipaaGreatSxObC
namespace Go.Proofs.YtdlppkhmmclipaaGreat.sxObj
open Go.Sx Go.RowKit Go.Proofs.YtdlppkhmmclipaaGreat
set_option linter.unusedVariables false
def fAlive : Nat := 70
def fExDo : Nat := 41
def fSpecEx : Nat := 19
def tSp : Nat := 98
def inK : DKs := .cons (.int .i64) .nil
def atO (e : E) : SObj := .dmp .str false inK e none
def spO (ttl now objs : E) : SObj := .cells tSp [iS ttl, iS now, .dsl objK objs, .map 2]
def bigE : E := .il 1125899906842624
def timeF (now ttl at_ : E) : Facts := [leT (.il 0) now, leT now bigE, leT (.il (-1099511627776)) ttl, leT ttl (.il 1099511627776), (.uf 164 (pk [at_]), true)]
def alP : List E := [.v 7500, .v 7501, .v 7502, .v 7503, .v 7504, .v 7505]
def alR (r : E) : E := pk (alP ++ [r])
def alEnt : Facts := [(okL (.v 7500), true), maxF (.v 7500)] ++ timeF (.v 7502) (.v 7503) (.v 7501)
def alCnt : E := .uf 161 (alR (.v 2140))
def alOut : E := .uf 160 (pk alP)
def alY : LoopY where
  f := fAlive; key := 3; N := 71; r := 2140; base := 151000
  js := [9, 10, 11] ++ rgN 18 70
  hd := fun m => ⟨[(0, .ptr 1 (.c 0)), (1, .str (.v 7504)), (2, .bool (.v 7505)), (15, .dsl objK (.v 7500)), (16, iS (lenE (.v 7500))), (7, match m with | 0 => .nilsl | _ => .sl 8 8 (.il 0) alCnt), (17, iS (.v 2140))],
    (match m with | 0 => [] | _ => [(8, .row tIObj 8 alCnt (tcCols objK alOut 0) [])]) ++ [(2, atO (.v 7501)), (1, spO (.v 7503) (.v 7502) (.uf 162 (alR (.v 2140))))], 9,
    (match m with | 0 => [(.o2 .ieq alCnt (.il 0), true)] | _ => [ltT (.il 0) alCnt]) ++ leT (.il 0) (.v 2140) :: leT (.v 2140) (lenE (.v 7500)) :: alEnt⟩
  ent := fun _ => alEnt
  app := fun _ => true
  ok0 := fun m => Nat.beq m 0
  modeL := fun sl => match nth sl 7 with | some .nilsl => .ret 0 | some (.sl ..) => .ret 1 | _ => .fail
  tgt := fun m => Nat.ble m 1
  mf := fun m => match m with | 0 => [(.o2 .ieq alCnt (.il 0), true)] | _ => [ltT (.il 0) alCnt]
  hx := fun _ => ⟨[(0, .ptr 1 (.c 0)), (1, .top), (2, .top), (15, .top), (16, .top), (7, .dsl objK alOut), (17, .top)], [(2, atO (.v 7501)), (1, spO (.v 7503) (.v 7502) (.uf 163 (pk alP)))], 9, []⟩
  xmL := fun _ _ => .ret 0
  exN := fun _ => .exit 0
  exits := [(.bl true, 0)]
  fixed := [1, 2]
  lt := .o2 .lt (.v 2140) (lenE (.v 7500))
  X := (⟨[(fObjKey, objKeyF.funP), (fObjsWithout, objsWithoutF.funP)], []⟩ : Ctr).x
  fuel := 400; np := 120
  params := [7500, 7501, 7502, 7503, 7504, 7505]
  kds := [(tIObj, objK)]
def st0 : List SV := [iS (.il 0), .bool (.bl false), .nilsl, .nilsl, .str (.sl []), .nilsl]
def st1 : List SV := [iS (.il 1), .bool (.bl false), .nilsl, .nilsl, .str (.sl []), .nilsl]
def rpY : LoopY where
  f := fExDo; key := 17; N := 141; r := 2141; base := 152000
  js := [9, 10, 11] ++ rgN 70 85
  hd := fun m => ⟨[(4, .ptr 1 (.c 0)), (67, .dsl objK (.v 7510)), (68, iS (lenE (.v 7510))), (7, match m with | 0 => .nilsl | _ => .dsl objK (.uf 165 (pk [.v 7510, .v 2141]))), (69, iS (.v 2141))], [(1, .cells tStAns st0)], 9,
    (match m with | 0 => [(.o2 .ieq (.v 2141) (.il 0), true)] | _ => [ltT (.il 0) (.v 2141)]) ++ leT (.il 0) (.v 2141) :: leT (.v 2141) (.uf 167 (pk [.v 7510])) :: [(okL (.v 7510), true), leT (lenE (.v 7510)) (.il 20)]⟩
  ent := fun _ => [(okL (.v 7510), true), leT (lenE (.v 7510)) (.il 20)]
  app := fun _ => true
  ok0 := fun m => Nat.beq m 0
  modeL := fun sl => match nth sl 7 with | some .nilsl => .ret 0 | some (.dsl ..) => .ret 1 | _ => .fail
  tgt := fun m => Nat.beq m 1
  mf := fun m => match m with | 0 => [(.o2 .ieq (.v 2141) (.il 0), true)] | _ => [ltT (.il 0) (.v 2141)]
  hx := fun n => ⟨[(4, .ptr 1 (.c 0)), (67, .top), (68, .top), (7, match n with | 1 => .top | _ => .dsl objK (.uf 168 (pk [.v 7510]))), (69, .top)], [(1, .cells tStAns (match n with | 1 => st1 | _ => st0))], 9, []⟩
  xmL := fun ex _ => match ex with | .ret => .ret 1 | _ => .ret 0
  exN := fun n => match n with | 1 => .ret | _ => .exit 2
  exits := [(.uf 166 (pk [.v 7510]), 1), (.bl true, 0)]
  fixed := [1]
  lt := .o2 .lt (.v 2141) (.uf 167 (pk [.v 7510]))
  X := (⟨[(fObjKey, objKeyF.funP), (fObjsWith, objsWithF.funP)], []⟩ : Ctr).x
  fuel := 400; np := 120
  params := [7510]
  kds := [(tIObj, objK)]
def atEnt : Facts := [maxF (.v 7515)]
def atY : LoopY where
  f := fExDo; key := 26; N := 141; r := 2142; base := 153000
  js := [13] ++ rgN 93 106
  hd := fun _ => ⟨[(0, .ptr 1 (.c 0)), (90, .dsl strK (.v 7515)), (91, iS (lenE (.v 7515))), (92, iS (.v 2142))], [(2, atO (.uf 169 (pk [.v 7515, .v 7516, .v 7517, .v 2142]))), (1, spO (.v 7518) (.v 7517) (.v 7519))], 9,
    leT (.il 0) (.v 2142) :: leT (.v 2142) (lenE (.v 7515)) :: atEnt⟩
  ent := fun _ => atEnt
  app := fun _ => true
  ok0 := fun m => Nat.beq m 0
  modeL := fun _ => .ret 0
  tgt := fun m => Nat.beq m 0
  mf := fun _ => []
  hx := fun _ => ⟨[(0, .ptr 1 (.c 0)), (90, .top), (91, .top), (92, .top)], [(2, atO (.uf 169 (pk [.v 7515, .v 7516, .v 7517, lenE (.v 7515)]))), (1, spO (.v 7518) (.v 7517) (.v 7519))], 9, []⟩
  xmL := fun _ _ => .ret 0
  exN := fun _ => .exit 4
  exits := [(.bl true, 0)]
  fixed := [1, 2]
  lt := .o2 .lt (.v 2142) (lenE (.v 7515))
  X := XCtr.none
  fuel := 400; np := 120
  params := [7515, 7516, 7517, 7518, 7519]
  pinH := [(7516, 0, 0, [3])]
end Go.Proofs.YtdlppkhmmclipaaGreat.sxObj
namespace Go.Proofs.YtdlppkhmmclipaaGreat.sxObj
open Go.Sx
set_option linter.unusedVariables false
abbrev oe0 : E := .o2 .sub (.v 7502) (.o2 (.cell 1) (.v 7501) (.o2 (.mf .s) (.v 7501) (.sl [])))
abbrev oe1 : E := .o2 .lt (.v 7503) oe0
abbrev oe2 : E := .o2 .le (.il 0) (.o2 (.mf .s) (.v 7501) (.sl []))
abbrev oe3 : E := .o2 .lt (.v 2140) (.o1 .tlen (.v 7500))
abbrev oe4 : Facts := [(oe3, true)]
abbrev oe5 : Facts := (((.o2 (.cell 6) (.v 7500) (.v 2140)), true) : E × Bool) :: oe4
abbrev oe6 : Facts := (((.v 7505), true) : E × Bool) :: oe5
abbrev oe7 : Facts := (((.o2 .lt (.il 0) (.v 7503)), true) : E × Bool) :: oe6
abbrev oe8 : Facts := ((oe2, true) : E × Bool) :: oe7
abbrev oe9 : Facts := ((oe1, true) : E × Bool) :: oe8
abbrev oe10 : E := .o2 .cel (.v 7500) (.o2 .cel (.v 7501) (.o2 .cel (.v 7502) (.o2 .cel (.v 7503) (.o2 .cel (.v 7504) (.o2 .cel (.v 7505) (.o2 .cel (.o2 .add (.v 2140) (.il 1)) (.il 0)))))))
abbrev oe11 : E := .o2 .cel (.v 7500) (.o2 .cel (.v 7501) (.o2 .cel (.v 7502) (.o2 .cel (.v 7503) (.o2 .cel (.v 7504) (.o2 .cel (.v 7505) (.o2 .cel (.v 2140) (.il 0)))))))
abbrev oe12 : List Ob := [(.t (.uf 108 (.o2 .cel (.uf 162 oe11) (.o2 .cel (.sl []) (.il 0)))) (.uf 162 oe10))]
abbrev oe13 : List Ob := ((.e (.uf 110 (.o2 .cel (.o2 (.cell 0) (.v 7500) (.v 2140)) (.o2 .cel (.o2 (.cell 1) (.v 7500) (.v 2140)) (.o2 .cel (.o2 (.cell 4) (.v 7500) (.v 2140)) (.il 0)))))) : Ob) :: oe12
abbrev oe14 : List Ob := ((.e (.o2 .ieq (.uf 161 oe10) (.il 0))) : Ob) :: ((.e (.o2 .le (.o1 .tlen (.uf 162 oe11)) (.il 1000000))) : Ob) :: ((.e (.uf 111 (.o2 .cel (.uf 162 oe11) (.il 0)))) : Ob) :: ((.e (.o2 .le oe0 (.il 9223372036854775807))) : Ob) :: oe13
abbrev oe15 : Facts := ((oe1, false) : E × Bool) :: oe8
abbrev oe16 : E := .o2 .cel (.v 7500) (.o2 .cel (.v 7501) (.o2 .cel (.v 7502) (.o2 .cel (.v 7503) (.o2 .cel (.v 7504) (.o2 .cel (.v 7505) (.il 0))))))
abbrev oe17 : List Ob := [(.t (.uf 162 oe11) (.uf 162 oe10))]
abbrev oe18 : List Ob := ((.e (.uf 110 (.o2 .cel (.o2 (.cell 0) (.v 7500) (.v 2140)) (.o2 .cel (.o2 (.cell 1) (.v 7500) (.v 2140)) (.o2 .cel (.o2 (.cell 4) (.v 7500) (.v 2140)) (.il 0)))))) : Ob) :: ((.e (.o2 .ieq (.il 1) (.uf 161 oe10))) : Ob) :: ((.e (.o2 .ieq (.uf 161 oe10) (.il 1))) : Ob) :: ((.e (.o2 .seq (.o2 (.cell 0) (.v 7500) (.v 2140)) (.o2 (.cell 0) (.uf 160 oe16) (.il 0)))) : Ob) :: ((.e (.o2 .seq (.o2 (.cell 1) (.v 7500) (.v 2140)) (.o2 (.cell 1) (.uf 160 oe16) (.il 0)))) : Ob) :: ((.e (.o2 .seq (.o2 (.cell 2) (.v 7500) (.v 2140)) (.o2 (.cell 2) (.uf 160 oe16) (.il 0)))) : Ob) :: ((.e (.o2 .seq (.o2 (.cell 3) (.v 7500) (.v 2140)) (.o2 (.cell 3) (.uf 160 oe16) (.il 0)))) : Ob) :: ((.t (.o2 (.cell 4) (.v 7500) (.v 2140)) (.o2 (.cell 4) (.uf 160 oe16) (.il 0))) : Ob) :: ((.e (.o2 .seq (.o2 (.cell 5) (.v 7500) (.v 2140)) (.o2 (.cell 5) (.uf 160 oe16) (.il 0)))) : Ob) :: ((.e (.o2 .beq (.o2 (.cell 6) (.v 7500) (.v 2140)) (.o2 (.cell 6) (.uf 160 oe16) (.il 0)))) : Ob) :: ((.e (.o2 .beq (.o2 (.cell 7) (.v 7500) (.v 2140)) (.o2 (.cell 7) (.uf 160 oe16) (.il 0)))) : Ob) :: oe17
abbrev oe19 : List Ob := ((.e (.o2 .lt (.il 0) (.uf 161 oe10))) : Ob) :: ((.e (.o2 .le (.il (-9223372036854775808)) oe0)) : Ob) :: oe18
abbrev oe20 : E := .o2 .lt (.v 7503) (.o2 .sub (.v 7502) (.il 0))
abbrev oe21 : Facts := ((oe2, false) : E × Bool) :: oe7
abbrev oe22 : Facts := ((oe20, true) : E × Bool) :: oe21
abbrev oe23 : List Ob := ((.e (.o2 .ieq (.uf 161 oe10) (.il 0))) : Ob) :: ((.e (.o2 .le (.o1 .tlen (.uf 162 oe11)) (.il 1000000))) : Ob) :: ((.e (.uf 111 (.o2 .cel (.uf 162 oe11) (.il 0)))) : Ob) :: oe13
abbrev oe24 : Facts := ((oe20, false) : E × Bool) :: oe21
abbrev oe25 : List Ob := ((.e (.o2 .lt (.il 0) (.uf 161 oe10))) : Ob) :: oe18
abbrev oe26 : Facts := (((.o2 .lt (.il 0) (.v 7503)), false) : E × Bool) :: oe6
abbrev oe27 : Facts := (((.v 7505), false) : E × Bool) :: oe5
abbrev oe28 : Facts := (((.o2 .seq (.sl []) (.v 7504)), true) : E × Bool) :: oe27
abbrev oe29 : Facts := (((.o2 .lt (.il 0) (.v 7503)), true) : E × Bool) :: oe28
abbrev oe30 : Facts := ((oe2, true) : E × Bool) :: oe29
abbrev oe31 : Facts := ((oe1, true) : E × Bool) :: oe30
abbrev oe32 : Facts := ((oe1, false) : E × Bool) :: oe30
abbrev oe33 : Facts := ((oe2, false) : E × Bool) :: oe29
abbrev oe34 : Facts := ((oe20, true) : E × Bool) :: oe33
abbrev oe35 : Facts := ((oe20, false) : E × Bool) :: oe33
abbrev oe36 : Facts := (((.o2 .lt (.il 0) (.v 7503)), false) : E × Bool) :: oe28
abbrev oe37 : Facts := (((.o2 .seq (.sl []) (.v 7504)), false) : E × Bool) :: oe27
abbrev oe38 : List Ob := ((.e (.o2 .ieq (.uf 161 oe10) (.il 0))) : Ob) :: ((.e (.uf 110 (.o2 .cel (.o2 (.cell 0) (.v 7500) (.v 2140)) (.o2 .cel (.o2 (.cell 1) (.v 7500) (.v 2140)) (.o2 .cel (.o2 (.cell 4) (.v 7500) (.v 2140)) (.il 0)))))) : Ob) :: oe17
abbrev oe39 : E := .uf 100 (.o2 .cel (.o2 (.cell 0) (.v 7500) (.v 2140)) (.o2 .cel (.o2 (.cell 1) (.v 7500) (.v 2140)) (.il 0)))
abbrev oe40 : E := .o2 (.mf .s) (.v 7501) oe39
abbrev oe41 : E := .o2 .sub (.v 7502) (.o2 (.cell 1) (.v 7501) oe40)
abbrev oe42 : E := .o2 .lt (.v 7503) oe41
abbrev oe43 : E := .o2 .le (.il 0) oe40
abbrev oe44 : Facts := (((.o2 (.cell 6) (.v 7500) (.v 2140)), false) : E × Bool) :: oe4
abbrev oe45 : Facts := (((.v 7505), true) : E × Bool) :: oe44
abbrev oe46 : Facts := (((.o2 .lt (.il 0) (.v 7503)), true) : E × Bool) :: oe45
abbrev oe47 : Facts := ((oe43, true) : E × Bool) :: oe46
abbrev oe48 : Facts := ((oe42, true) : E × Bool) :: oe47
abbrev oe49 : List Ob := [(.t (.uf 108 (.o2 .cel (.uf 162 oe11) (.o2 .cel oe39 (.il 0)))) (.uf 162 oe10))]
abbrev oe50 : List Ob := ((.e (.uf 110 (.o2 .cel (.o2 (.cell 0) (.v 7500) (.v 2140)) (.o2 .cel (.o2 (.cell 1) (.v 7500) (.v 2140)) (.o2 .cel (.o2 (.cell 4) (.v 7500) (.v 2140)) (.il 0)))))) : Ob) :: oe49
abbrev oe51 : List Ob := ((.e (.o2 .ieq (.uf 161 oe10) (.il 0))) : Ob) :: ((.e (.o2 .le (.o1 .tlen (.uf 162 oe11)) (.il 1000000))) : Ob) :: ((.e (.uf 111 (.o2 .cel (.uf 162 oe11) (.il 0)))) : Ob) :: ((.e (.o2 .le oe41 (.il 9223372036854775807))) : Ob) :: oe50
abbrev oe52 : Facts := ((oe42, false) : E × Bool) :: oe47
abbrev oe53 : List Ob := ((.e (.o2 .lt (.il 0) (.uf 161 oe10))) : Ob) :: ((.e (.o2 .le (.il (-9223372036854775808)) oe41)) : Ob) :: oe18
abbrev oe54 : Facts := ((oe43, false) : E × Bool) :: oe46
abbrev oe55 : Facts := ((oe20, true) : E × Bool) :: oe54
abbrev oe56 : List Ob := ((.e (.o2 .ieq (.uf 161 oe10) (.il 0))) : Ob) :: ((.e (.o2 .le (.o1 .tlen (.uf 162 oe11)) (.il 1000000))) : Ob) :: ((.e (.uf 111 (.o2 .cel (.uf 162 oe11) (.il 0)))) : Ob) :: oe50
abbrev oe57 : Facts := ((oe20, false) : E × Bool) :: oe54
abbrev oe58 : Facts := (((.o2 .lt (.il 0) (.v 7503)), false) : E × Bool) :: oe45
abbrev oe59 : E := .o2 .seq oe39 (.v 7504)
abbrev oe60 : Facts := (((.v 7505), false) : E × Bool) :: oe44
abbrev oe61 : Facts := ((oe59, true) : E × Bool) :: oe60
abbrev oe62 : Facts := (((.o2 .lt (.il 0) (.v 7503)), true) : E × Bool) :: oe61
abbrev oe63 : Facts := ((oe43, true) : E × Bool) :: oe62
abbrev oe64 : Facts := ((oe42, true) : E × Bool) :: oe63
abbrev oe65 : Facts := ((oe42, false) : E × Bool) :: oe63
abbrev oe66 : Facts := ((oe43, false) : E × Bool) :: oe62
abbrev oe67 : Facts := ((oe20, true) : E × Bool) :: oe66
abbrev oe68 : Facts := ((oe20, false) : E × Bool) :: oe66
abbrev oe69 : Facts := (((.o2 .lt (.il 0) (.v 7503)), false) : E × Bool) :: oe61
abbrev oe70 : Facts := ((oe59, false) : E × Bool) :: oe60
abbrev oe71 : Facts := [(oe3, false)]
abbrev oe72 : List Ob := [(.t (.uf 162 oe11) (.uf 163 oe16))]
def al0L : List (Facts × List Ob) :=
  [(oe9,
    oe14),
   (oe15,
    oe19),
   (oe22,
    oe23),
   (oe24,
    oe25),
   (oe26,
    oe25),
   (oe31,
    oe14),
   (oe32,
    oe19),
   (oe34,
    oe23),
   (oe35,
    oe25),
   (oe36,
    oe25),
   (oe37,
    oe38),
   (oe48,
    oe51),
   (oe52,
    oe53),
   (oe55,
    oe56),
   (oe57,
    oe25),
   (oe58,
    oe25),
   (oe64,
    oe51),
   (oe65,
    oe53),
   (oe67,
    oe56),
   (oe68,
    oe25),
   (oe69,
    oe25),
   (oe70,
    oe38),
   (oe71,
    (((.t (.il 0) (.uf 160 oe16)) : Ob) :: oe72))]
abbrev oe73 : List Ob := ((.e (.uf 110 (.o2 .cel (.o2 (.cell 0) (.v 7500) (.v 2140)) (.o2 .cel (.o2 (.cell 1) (.v 7500) (.v 2140)) (.o2 .cel (.o2 (.cell 4) (.v 7500) (.v 2140)) (.il 0)))))) : Ob) :: ((.e (.o2 .ieq (.uf 161 oe11) (.uf 161 oe10))) : Ob) :: ((.e (.o2 .ieq (.uf 161 oe10) (.uf 161 oe11))) : Ob) :: oe12
abbrev oe74 : List Ob := ((.e (.o2 .lt (.il 0) (.uf 161 oe10))) : Ob) :: ((.e (.o2 .le (.o1 .tlen (.uf 162 oe11)) (.il 1000000))) : Ob) :: ((.e (.uf 111 (.o2 .cel (.uf 162 oe11) (.il 0)))) : Ob) :: ((.e (.o2 .le oe0 (.il 9223372036854775807))) : Ob) :: oe73
abbrev oe75 : E := .o2 .add (.uf 161 oe11) (.il 1)
abbrev oe76 : List Ob := ((.e (.uf 110 (.o2 .cel (.o2 (.cell 0) (.v 7500) (.v 2140)) (.o2 .cel (.o2 (.cell 1) (.v 7500) (.v 2140)) (.o2 .cel (.o2 (.cell 4) (.v 7500) (.v 2140)) (.il 0)))))) : Ob) :: ((.e (.o2 .ieq oe75 (.uf 161 oe10))) : Ob) :: ((.e (.o2 .ieq (.uf 161 oe10) oe75)) : Ob) :: ((.e (.o2 .seq (.o2 (.cell 0) (.v 7500) (.v 2140)) (.o2 (.cell 0) (.uf 160 oe16) (.uf 161 oe11)))) : Ob) :: ((.e (.o2 .seq (.o2 (.cell 1) (.v 7500) (.v 2140)) (.o2 (.cell 1) (.uf 160 oe16) (.uf 161 oe11)))) : Ob) :: ((.e (.o2 .seq (.o2 (.cell 2) (.v 7500) (.v 2140)) (.o2 (.cell 2) (.uf 160 oe16) (.uf 161 oe11)))) : Ob) :: ((.e (.o2 .seq (.o2 (.cell 3) (.v 7500) (.v 2140)) (.o2 (.cell 3) (.uf 160 oe16) (.uf 161 oe11)))) : Ob) :: ((.t (.o2 (.cell 4) (.v 7500) (.v 2140)) (.o2 (.cell 4) (.uf 160 oe16) (.uf 161 oe11))) : Ob) :: ((.e (.o2 .seq (.o2 (.cell 5) (.v 7500) (.v 2140)) (.o2 (.cell 5) (.uf 160 oe16) (.uf 161 oe11)))) : Ob) :: ((.e (.o2 .beq (.o2 (.cell 6) (.v 7500) (.v 2140)) (.o2 (.cell 6) (.uf 160 oe16) (.uf 161 oe11)))) : Ob) :: ((.e (.o2 .beq (.o2 (.cell 7) (.v 7500) (.v 2140)) (.o2 (.cell 7) (.uf 160 oe16) (.uf 161 oe11)))) : Ob) :: oe17
abbrev oe77 : List Ob := ((.e (.o2 .lt (.il 0) (.uf 161 oe10))) : Ob) :: ((.e (.o2 .le (.uf 161 oe11) (.il 2147483648))) : Ob) :: ((.e (.o2 .le (.il (-9223372036854775808)) oe0)) : Ob) :: oe76
abbrev oe78 : List Ob := ((.e (.o2 .lt (.il 0) (.uf 161 oe10))) : Ob) :: ((.e (.o2 .le (.o1 .tlen (.uf 162 oe11)) (.il 1000000))) : Ob) :: ((.e (.uf 111 (.o2 .cel (.uf 162 oe11) (.il 0)))) : Ob) :: oe73
abbrev oe79 : List Ob := ((.e (.o2 .lt (.il 0) (.uf 161 oe10))) : Ob) :: ((.e (.o2 .le (.uf 161 oe11) (.il 2147483648))) : Ob) :: oe76
abbrev oe80 : List Ob := ((.e (.o2 .lt (.il 0) (.uf 161 oe10))) : Ob) :: ((.e (.uf 110 (.o2 .cel (.o2 (.cell 0) (.v 7500) (.v 2140)) (.o2 .cel (.o2 (.cell 1) (.v 7500) (.v 2140)) (.o2 .cel (.o2 (.cell 4) (.v 7500) (.v 2140)) (.il 0)))))) : Ob) :: ((.e (.o2 .ieq (.uf 161 oe11) (.uf 161 oe10))) : Ob) :: ((.e (.o2 .ieq (.uf 161 oe10) (.uf 161 oe11))) : Ob) :: oe17
abbrev oe81 : List Ob := ((.e (.uf 110 (.o2 .cel (.o2 (.cell 0) (.v 7500) (.v 2140)) (.o2 .cel (.o2 (.cell 1) (.v 7500) (.v 2140)) (.o2 .cel (.o2 (.cell 4) (.v 7500) (.v 2140)) (.il 0)))))) : Ob) :: ((.e (.o2 .ieq (.uf 161 oe11) (.uf 161 oe10))) : Ob) :: ((.e (.o2 .ieq (.uf 161 oe10) (.uf 161 oe11))) : Ob) :: oe49
abbrev oe82 : List Ob := ((.e (.o2 .lt (.il 0) (.uf 161 oe10))) : Ob) :: ((.e (.o2 .le (.o1 .tlen (.uf 162 oe11)) (.il 1000000))) : Ob) :: ((.e (.uf 111 (.o2 .cel (.uf 162 oe11) (.il 0)))) : Ob) :: ((.e (.o2 .le oe41 (.il 9223372036854775807))) : Ob) :: oe81
abbrev oe83 : List Ob := ((.e (.o2 .lt (.il 0) (.uf 161 oe10))) : Ob) :: ((.e (.o2 .le (.uf 161 oe11) (.il 2147483648))) : Ob) :: ((.e (.o2 .le (.il (-9223372036854775808)) oe41)) : Ob) :: oe76
abbrev oe84 : List Ob := ((.e (.o2 .lt (.il 0) (.uf 161 oe10))) : Ob) :: ((.e (.o2 .le (.o1 .tlen (.uf 162 oe11)) (.il 1000000))) : Ob) :: ((.e (.uf 111 (.o2 .cel (.uf 162 oe11) (.il 0)))) : Ob) :: oe81
def al1L : List (Facts × List Ob) :=
  [(oe9,
    oe74),
   (oe15,
    oe77),
   (oe22,
    oe78),
   (oe24,
    oe79),
   (oe26,
    oe79),
   (oe31,
    oe74),
   (oe32,
    oe77),
   (oe34,
    oe78),
   (oe35,
    oe79),
   (oe36,
    oe79),
   (oe37,
    oe80),
   (oe48,
    oe82),
   (oe52,
    oe83),
   (oe55,
    oe84),
   (oe57,
    oe79),
   (oe58,
    oe79),
   (oe64,
    oe82),
   (oe65,
    oe83),
   (oe67,
    oe84),
   (oe68,
    oe79),
   (oe69,
    oe79),
   (oe70,
    oe80),
   (oe71,
    (((.e (.o2 .le (.uf 161 oe11) (.o1 .tlen (.uf 160 oe16)))) : Ob) :: ((.t (.o2 .ttake (.uf 160 oe16) (.uf 161 oe11)) (.uf 160 oe16)) : Ob) :: oe72))]
abbrev oe85 : E := .o2 .lt (.v 2141) (.o1 .tlen (.v 7510))
abbrev oe86 : Facts := [(oe85, true)]
abbrev oe87 : Facts := (((.o2 (.cell 6) (.v 7510) (.v 2141)), true) : E × Bool) :: oe86
abbrev oe88 : E := .uf 166 (.o2 .cel (.v 7510) (.il 0))
abbrev oe89 : List Ob := [(.e oe88), (.e (.uf 110 (.o2 .cel (.o2 (.cell 0) (.v 7510) (.v 2141)) (.o2 .cel (.o2 (.cell 1) (.v 7510) (.v 2141)) (.o2 .cel (.o2 (.cell 4) (.v 7510) (.v 2141)) (.il 0))))))]
abbrev oe90 : Facts := (((.o2 (.cell 6) (.v 7510) (.v 2141)), false) : E × Bool) :: oe86
abbrev oe91 : E := .o2 .cel (.o2 (.cell 0) (.v 7510) (.v 2141)) (.o2 .cel (.o2 (.cell 1) (.v 7510) (.v 2141)) (.o2 .cel (.o2 (.cell 2) (.v 7510) (.v 2141)) (.o2 .cel (.o2 (.cell 3) (.v 7510) (.v 2141)) (.o2 .cel (.o2 (.cell 4) (.v 7510) (.v 2141)) (.o2 .cel (.o2 (.cell 5) (.v 7510) (.v 2141)) (.o2 .cel (.o2 (.cell 6) (.v 7510) (.v 2141)) (.o2 .cel (.o2 (.cell 7) (.v 7510) (.v 2141)) (.il 0))))))))
abbrev oe92 : E := .uf 165 (.o2 .cel (.v 7510) (.o2 .cel (.o2 .add (.v 2141) (.il 1)) (.il 0)))
abbrev oe93 : Facts := [(oe85, false)]
abbrev oe94 : E := .uf 168 (.o2 .cel (.v 7510) (.il 0))
def rp0L : List (Facts × List Ob) :=
  [(oe87,
    oe89),
   (oe90,
    [(.e (.o2 .lt (.v 2141) (.uf 167 (.o2 .cel (.v 7510) (.il 0))))), (.e (.uf 110 (.o2 .cel (.o2 (.cell 0) (.v 7510) (.v 2141)) (.o2 .cel (.o2 (.cell 1) (.v 7510) (.v 2141)) (.o2 .cel (.o2 (.cell 4) (.v 7510) (.v 2141)) (.il 0)))))), (.e (.uf 111 (.o2 .cel (.il 0) (.il 0)))), (.e (.uf 110 (.o2 .cel (.o2 (.cell 0) (.v 7510) (.v 2141)) (.o2 .cel (.o2 (.cell 1) (.v 7510) (.v 2141)) (.o2 .cel (.o2 (.cell 4) (.v 7510) (.v 2141)) (.il 0)))))), (.t (.uf 107 (.o2 .cel (.il 0) oe91)) oe92)]),
   (oe93,
    [(.e (.o1 .not oe88)), (.t (.il 0) oe94)])]
abbrev oe95 : E := .uf 165 (.o2 .cel (.v 7510) (.o2 .cel (.v 2141) (.il 0)))
def rp1L : List (Facts × List Ob) :=
  [(oe87,
    oe89),
   (oe90,
    [(.e (.o2 .lt (.v 2141) (.uf 167 (.o2 .cel (.v 7510) (.il 0))))), (.e (.o2 .le (.o1 .tlen oe95) (.il 1000000))), (.e (.uf 110 (.o2 .cel (.o2 (.cell 0) (.v 7510) (.v 2141)) (.o2 .cel (.o2 (.cell 1) (.v 7510) (.v 2141)) (.o2 .cel (.o2 (.cell 4) (.v 7510) (.v 2141)) (.il 0)))))), (.e (.uf 111 (.o2 .cel oe95 (.il 0)))), (.e (.uf 110 (.o2 .cel (.o2 (.cell 0) (.v 7510) (.v 2141)) (.o2 .cel (.o2 (.cell 1) (.v 7510) (.v 2141)) (.o2 .cel (.o2 (.cell 4) (.v 7510) (.v 2141)) (.il 0)))))), (.t (.uf 107 (.o2 .cel oe95 oe91)) oe92)]),
   (oe93,
    [(.e (.o1 .not oe88)), (.t oe95 oe94)])]
abbrev oe96 : E := .o2 .lt (.v 2142) (.o1 .tlen (.v 7515))
abbrev oe97 : E := .uf 169 (.o2 .cel (.v 7515) (.o2 .cel (.v 7516) (.o2 .cel (.v 7517) (.o2 .cel (.v 2142) (.il 0)))))
def atL : List (Facts × List Ob) :=
  [([(oe96, true)],
    [(.p (.o2 (.mp .s) oe97 (.o2 .cel (.o2 (.cell 0) (.v 7515) (.v 2142)) (.o2 .cel (.v 7517) (.il 0)))) (.uf 169 (.o2 .cel (.v 7515) (.o2 .cel (.v 7516) (.o2 .cel (.v 7517) (.o2 .cel (.o2 .add (.v 2142) (.il 1)) (.il 0)))))))]),
   ([(oe96, false)],
    [(.p oe97 (.uf 169 (.o2 .cel (.v 7515) (.o2 .cel (.v 7516) (.o2 .cel (.v 7517) (.o2 .cel (.o1 .tlen (.v 7515)) (.il 0)))))))])]
end Go.Proofs.YtdlppkhmmclipaaGreat.sxObj
namespace Go.Proofs.YtdlppkhmmclipaaGreat.sxObj
open Go.Sx Go.RowKit Go.Proofs.YtdlppkhmmclipaaGreat
set_option linter.unusedVariables false
set_option linter.unusedSimpArgs false
set_option maxRecDepth 100000
theorem mfind_lt {q : KQ} {k : Dv} : ∀ {l : List Row} {i : Nat}, mfind q k l = some i -> i < l.length
  | r :: l, i, h => by
    unfold mfind at h; cases hq : q.eq (r.headD (.i 0)) k with
    | true => rw [hq] at h; cases h; exact Nat.succ_pos _
    | false =>
      rw [hq] at h; simp only [cond_false, Option.map_eq_some_iff] at h; obtain ⟨j, hj, rfl⟩ := h; exact Nat.succ_lt_succ (mfind_lt hj)
theorem mfI_lt {q : KQ} {k : Dv} {l : List Row} (h : 0 <= mfindI q k l) : (mfindI q k l).toNat < l.length := by
  unfold mfindI at h ⊢; split
  . rename_i i hi; have := mfind_lt hi; omega
  . rename_i hn; rw [hn] at h; exact absurd h (by decide)
theorem with_ok {l : Dv} {k : ByteArray} {x : Row} (h : okRows l.T) (hx : okRow x) : okRows (withT l k x) := fun r hr => by
  unfold withT at hr; rcases List.mem_append.1 hr with h1 | h1
  . exact h r (List.mem_of_mem_take h1)
  . rcases List.mem_cons.1 h1 with h2 | h2
    . rw [h2]; exact hx
    . exact h r (List.mem_of_mem_drop h2)
theorem with_len {l : Dv} {k : ByteArray} {x : Row} : (withT l k x).length <= l.T.length + 1 := by
  unfold withT; rw [List.length_append, List.length_cons, List.length_take, List.length_drop]; split <;> omega
theorem without_ok {l : Dv} {k : ByteArray} (h : okRows l.T) : okRows (withoutT l k) := fun r hr => by
  unfold withoutT at hr; split at hr
  . rcases List.mem_append.1 hr with h1 | h1
    . exact h r (List.mem_of_mem_take h1)
    . exact h r (List.mem_of_mem_drop h1)
  . exact h r hr
theorem without_len {l : Dv} {k : ByteArray} : (withoutT l k).length <= l.T.length := by
  unfold withoutT; split
  . rw [List.length_append, List.length_take, List.length_drop]; omega
  . exact Nat.le_refl _
section
variable {l m : Dv} {now ttl : Int} {only : Dv} {all : Bool}
theorem alS_ok (h : okRows l.T) : ∀ n, okRows (alST l m now ttl only all n)
  | 0 => h
  | n + 1 => by
    unfold alST; split
    . exact without_ok (l := .t _) (alS_ok h n)
    . exact alS_ok h n
theorem alS_len : ∀ n, (alST l m now ttl only all n).length <= l.T.length
  | 0 => Nat.le_refl _
  | n + 1 => by
    unfold alST; split
    . exact Nat.le_trans without_len (alS_len n)
    . exact alS_len n
theorem alIx_s {n : Nat} : alIx l m now ttl only all (n + 1) = alIx l m now ttl only all n ++ (if dec (outP l m now ttl only all n) = true then [n] else []) := by
  unfold alIx; rw [List.range_succ, List.filter_append, List.filter_cons]; rfl
theorem alIx_le {a b : Nat} (h : a <= b) : ∃ r, alIx l m now ttl only all b = alIx l m now ttl only all a ++ r := by
  induction h with
  | refl => exact ⟨[], (List.append_nil _).symm⟩
  | step _ ih =>
    obtain ⟨r, hr⟩ := ih; exact ⟨_, by rw [alIx_s, hr, List.append_assoc]⟩
theorem alIx_len (n : Nat) : (alIx l m now ttl only all n).length <= n := by
  unfold alIx; exact Nat.le_trans (List.length_filter_le _ _) (by rw [List.length_range]; exact Nat.le_refl _)
theorem al_out {n : Nat} (hn : n < l.T.length) (h : outP l m now ttl only all n) : row (.t (alOutT l m now ttl only all)) (alIx l m now ttl only all n).length = row l n := by
  obtain ⟨r, hr⟩ := alIx_le (l := l) (m := m) (now := now) (ttl := ttl) (only := only) (all := all) (Nat.succ_le_of_lt hn); unfold alOutT; rw [hr, alIx_s, dec_iff.2 h]; unfold row; show ((List.map _ _)[_]?).getD [] = _; rw [List.getElem?_map, List.getElem?_append_left (by simp), List.getElem?_append_right (Nat.le_refl _)]
  simp
theorem al_keep {n : Nat} (h1 : askP only all (kS (row l n))) (h2 : ¬ goneP m now ttl (kS (row l n))) : (alIx l m now ttl only all (n + 1)).length = (alIx l m now ttl only all n).length + 1 /\ alST l m now ttl only all (n + 1) = alST l m now ttl only all n := by
  constructor
  . rw [alIx_s, dec_iff.2 (show outP l m now ttl only all n from ⟨h1, h2⟩), if_pos rfl, List.length_append]; rfl
  . show (if _ then _ else _) = _
    rw [dec_no.2 fun q => h2 q.2]; rfl
theorem al_drop {n : Nat} (h1 : askP only all (kS (row l n))) (h2 : goneP m now ttl (kS (row l n))) : (alIx l m now ttl only all (n + 1)).length = (alIx l m now ttl only all n).length /\ alST l m now ttl only all (n + 1) = withoutT (.t (alST l m now ttl only all n)) (kS (row l n)) := by
  constructor
  . rw [alIx_s, dec_no.2 (show ¬ outP l m now ttl only all n from fun q => q.2 h2), if_neg (by simp), List.append_nil]
  . show (if _ then _ else _) = _
    rw [dec_iff.2 ⟨h1, h2⟩]; rfl
theorem al_miss {n : Nat} (h1 : ¬ askP only all (kS (row l n))) : (alIx l m now ttl only all (n + 1)).length = (alIx l m now ttl only all n).length /\ alST l m now ttl only all (n + 1) = alST l m now ttl only all n := by
  constructor
  . rw [alIx_s, dec_no.2 (show ¬ outP l m now ttl only all n from fun q => h1 q.1), if_neg (by simp), List.append_nil]
  . show (if _ then _ else _) = _
    rw [dec_no.2 fun q => h1 q.1]; rfl
theorem atV_ok {k : ByteArray} (h : timesOk m) : 0 <= atV m k /\ atV m k <= 1125899906842624 := by
  unfold atV; split
  . rename_i hi; exact h _ (row_mem (mfI_lt hi))
  . omega
end
section
variable {o : Env}
theorem rp0_all (hu : OU o) (hr : o.v 2141 = .i (0 : Nat)) (hent : (rpY.ent 0).Hold o) (hle : (0 : Int) <= ((E.uf 167 (pk [.v 7510])).den o).I) : AllL o rp0L := by
  simp only [rpY, okL, leT, lenE, pk, List.foldr, SS, implies_true, hu.u111, hu.u167, dec_iff] at hent hle; have hle : 0 <= gN (qb (o.v 7510)) (o.v 7510).T.length := by omega
  simp only [rp0L, allL_cons, allL_nil, and_true]
  and_intros
  all_goals intro h
  all_goals simp only [SS, implies_true, hr, hu.u107, hu.u110, hu.u111, hu.u165, hu.u166, hu.u167, hu.u168, dec_iff, dec_no, Classical.not_not] at h ⊢
  . exact ⟨g_bad (r := 0) (by omega) (fun q => by unfold qb at q; rw [h.1] at q; cases q), okRow_at hent.1 (by omega)⟩
  . have := g_no hle (by omega) h.1
    exact ⟨by omega, okRow_at hent.1 (by omega), fun _ q => (by cases q), okRow_at hent.1 (by omega), rfl⟩
  . refine ⟨g_end hle (by omega), ?_⟩
    rw [show (o.v 7510).T.length = 0 by omega]; rfl
theorem reps_ok {l : Dv} (h : okRows l.T) : ∀ n, n <= l.T.length -> okRows (repsT l n)
  | 0, _ => fun _ q => by cases q
  | n + 1, hn => with_ok (l := .t _) (reps_ok h n (by omega)) (okRow_at h (n := n) (by omega))
theorem reps_len {l : Dv} : ∀ n, (repsT l n).length <= n
  | 0 => Nat.le_refl _
  | n + 1 => Nat.le_trans with_len (Nat.succ_le_succ (reps_len n))
theorem rp1_all (hu : OU o) {r : Nat} (hr : o.v 2141 = .i r) (hent : (rpY.ent 0).Hold o) (hle : (r : Int) <= ((E.uf 167 (pk [.v 7510])).den o).I) : AllL o rp1L := by
  simp only [rpY, okL, leT, lenE, pk, List.foldr, SS, implies_true, hu.u111, hu.u167, dec_iff] at hent hle; have hle : r <= gN (qb (o.v 7510)) (o.v 7510).T.length := by omega
  have hlen := @stop_le (fun j => !dec (qb (o.v 7510) j)) (o.v 7510).T.length; have hl2 := @reps_len (o.v 7510) r; simp only [rp1L, allL_cons, allL_nil, and_true]
  and_intros
  all_goals intro h
  all_goals simp only [SS, implies_true, hr, hu.u107, hu.u110, hu.u111, hu.u165, hu.u166, hu.u167, hu.u168, dec_iff, dec_no, Classical.not_not] at h ⊢
  . exact ⟨g_bad (r := r) (by omega) (fun q => by unfold qb at q; rw [h.1] at q; cases q), okRow_at hent.1 (by omega)⟩
  . have := g_no hle (by omega) h.1
    exact ⟨by omega, by omega, okRow_at hent.1 (by omega), reps_ok hent.1 r (by omega), okRow_at hent.1 (by omega), rfl⟩
  . refine ⟨g_end hle (by omega), ?_⟩
    have hle : r <= stop (fun j => !dec (qb (o.v 7510) j)) (o.v 7510).T.length := hle; rw [show (o.v 7510).T.length = r by omega]
theorem at_all (hu : OU o) {r : Nat} (hr : o.v 2142 = .i r) (hle : (r : Int) <= ((lenE (.v 7515)).den o).I) : AllL o atL := by
  simp only [lenE, SS, implies_true] at hle; simp only [atL, allL_cons, allL_nil, and_true]
  and_intros
  all_goals intro h
  all_goals simp only [SS, implies_true, hr, hu.u169] at h ⊢
  . exact List.Perm.refl _
  . rw [show (o.v 7515).T.length = r by omega]
theorem al1_all (hu : OU o) {r : Nat} (hr : o.v 2140 = .i r) (hent : (alY.ent 0).Hold o) (hmf : (alY.mf 1).Hold o) (hle : (r : Int) <= ((lenE (.v 7500)).den o).I) : AllL o al1L := by
  simp only [alY, alEnt, alCnt, alR, alP, timeF, bigE, okL, maxF, leT, ltT, lenE, pk, List.foldr, List.cons_append, List.nil_append, SS, implies_true, hr, hu.u111, hu.u161, hu.u164, dec_iff] at hent hle hmf; obtain ⟨hok, hmx, t1, t2, t3, t4, htm⟩ := hent; have hSl := alS_len (l := o.v 7500) (m := o.v 7501) (now := (o.v 7502).I) (ttl := (o.v 7503).I) (only := o.v 7504) (all := (o.v 7505).B) r; have hSk := alS_ok (m := o.v 7501) (now := (o.v 7502).I) (ttl := (o.v 7503).I) (only := o.v 7504) (all := (o.v 7505).B) hok r; simp only [al1L, allL_cons, allL_nil, and_true]
  and_intros
  all_goals intro h
  all_goals simp only [SS, implies_true, hr, hu.u100, hu.u108, hu.u110, hu.u111, hu.u160, hu.u161, hu.u162, hu.u163, dec_iff] at h ⊢
  rotate_right
  . have hl := alIx_len (l := o.v 7500) (m := o.v 7501) (now := (o.v 7502).I) (ttl := (o.v 7503).I) (only := o.v 7504) (all := (o.v 7505).B) r; have hr2 : (o.v 7500).T.length = r := by omega
    have hF : (alOutT (o.v 7500) (o.v 7501) (o.v 7502).I (o.v 7503).I (o.v 7504) (o.v 7505).B).length = (alIx (o.v 7500) (o.v 7501) (o.v 7502).I (o.v 7503).I (o.v 7504) (o.v 7505).B r).length := by
      unfold alOutT; rw [List.length_map, hr2]
    refine ⟨by omega, take_all (by omega), ?_⟩
    rw [hr2]
  all_goals (repeat (have b := h.1; replace h := h.2))
  all_goals have hl : r < (o.v 7500).T.length := by omega
  all_goals obtain ⟨k0, k1, k2⟩ := okRow_at hok hl
  all_goals first
    | have hK := kS_bad (r := row (o.v 7500) r) (by assumption)
    | have hK := kS_good (r := row (o.v 7500) r) (by assumption)
  all_goals have hat := atV_ok (k := kS (row (o.v 7500) r)) htm
  all_goals rw [hK] at hat
  all_goals unfold atV at hat
  all_goals try rw [if_pos (by assumption)] at hat
  all_goals first
    | have ha : askP (o.v 7504) (o.v 7505).B (kS (row (o.v 7500) r)) := Or.inl (by assumption)
    | have ha : askP (o.v 7504) (o.v 7505).B (kS (row (o.v 7500) r)) := Or.inr (by rw [hK]; assumption)
    | have ha : ¬ askP (o.v 7504) (o.v 7505).B (kS (row (o.v 7500) r)) := fun q => q.elim (fun e => by simp_all) (fun e => by rw [hK] at e; exact absurd e (by assumption))
  all_goals first
    | have hg : goneP (o.v 7501) (o.v 7502).I (o.v 7503).I (kS (row (o.v 7500) r)) := ⟨by assumption, by rw [hK]; unfold atV; first | (rw [if_pos (by assumption)]; assumption) | (rw [if_neg (by assumption)]; assumption)⟩
    | have hg : ¬ goneP (o.v 7501) (o.v 7502).I (o.v 7503).I (kS (row (o.v 7500) r)) := fun q => by have := q.1; omega
    | have hg : ¬ goneP (o.v 7501) (o.v 7502).I (o.v 7503).I (kS (row (o.v 7500) r)) := fun q => by
        rw [hK] at q; unfold goneP atV at q; first | rw [if_pos (by assumption)] at q | rw [if_neg (by assumption)] at q
        omega
    | skip
  all_goals first
    | (have hz := al_miss (m := o.v 7501) (now := (o.v 7502).I) (ttl := (o.v 7503).I) ha)
    | (have hz := al_drop ha hg)
    | (have hz := al_keep ha hg; have hO := al_out hl ⟨ha, hg⟩)
  all_goals obtain ⟨hz, hz2⟩ := hz
  all_goals have hle2 := alIx_len (l := o.v 7500) (m := o.v 7501) (now := (o.v 7502).I) (ttl := (o.v 7503).I) (only := o.v 7504) (all := (o.v 7505).B) r
  all_goals (try simp only [hO])
  all_goals simp only [hz, hz2, hK]
  all_goals and_intros
  all_goals first | omega | rfl | assumption | trivial
theorem al0_all (hu : OU o) {r : Nat} (hr : o.v 2140 = .i r) (hent : (alY.ent 0).Hold o) (hmf : (alY.mf 0).Hold o) (hle : (r : Int) <= ((lenE (.v 7500)).den o).I) : AllL o al0L := by
  simp only [alY, alEnt, alCnt, alR, alP, timeF, bigE, okL, maxF, leT, ltT, lenE, pk, List.foldr, List.cons_append, List.nil_append, SS, implies_true, hr, hu.u111, hu.u161, hu.u164, dec_iff] at hent hle hmf; obtain ⟨hok, hmx, t1, t2, t3, t4, htm⟩ := hent; have hm0 : (alIx (o.v 7500) (o.v 7501) (o.v 7502).I (o.v 7503).I (o.v 7504) (o.v 7505).B r).length = 0 := by omega
  have hSl := alS_len (l := o.v 7500) (m := o.v 7501) (now := (o.v 7502).I) (ttl := (o.v 7503).I) (only := o.v 7504) (all := (o.v 7505).B) r; have hSk := alS_ok (m := o.v 7501) (now := (o.v 7502).I) (ttl := (o.v 7503).I) (only := o.v 7504) (all := (o.v 7505).B) hok r; simp only [al0L, allL_cons, allL_nil, and_true]
  and_intros
  all_goals intro h
  all_goals simp only [SS, implies_true, hr, hu.u100, hu.u108, hu.u110, hu.u111, hu.u160, hu.u161, hu.u162, hu.u163, dec_iff] at h ⊢
  rotate_right
  . have hr2 : (o.v 7500).T.length = r := by omega
    refine ⟨?_, ?_⟩
    . unfold alOutT; rw [hr2, List.length_eq_zero_iff.1 hm0]; rfl
    . rw [hr2]
  all_goals (repeat (have b := h.1; replace h := h.2))
  all_goals have hl : r < (o.v 7500).T.length := by omega
  all_goals obtain ⟨k0, k1, k2⟩ := okRow_at hok hl
  all_goals first
    | have hK := kS_bad (r := row (o.v 7500) r) (by assumption)
    | have hK := kS_good (r := row (o.v 7500) r) (by assumption)
  all_goals have hat := atV_ok (k := kS (row (o.v 7500) r)) htm
  all_goals rw [hK] at hat
  all_goals unfold atV at hat
  all_goals try rw [if_pos (by assumption)] at hat
  all_goals first
    | have ha : askP (o.v 7504) (o.v 7505).B (kS (row (o.v 7500) r)) := Or.inl (by assumption)
    | have ha : askP (o.v 7504) (o.v 7505).B (kS (row (o.v 7500) r)) := Or.inr (by rw [hK]; assumption)
    | have ha : ¬ askP (o.v 7504) (o.v 7505).B (kS (row (o.v 7500) r)) := fun q => q.elim (fun e => by simp_all) (fun e => by rw [hK] at e; exact absurd e (by assumption))
  all_goals first
    | have hg : goneP (o.v 7501) (o.v 7502).I (o.v 7503).I (kS (row (o.v 7500) r)) := ⟨by assumption, by rw [hK]; unfold atV; first | (rw [if_pos (by assumption)]; assumption) | (rw [if_neg (by assumption)]; assumption)⟩
    | have hg : ¬ goneP (o.v 7501) (o.v 7502).I (o.v 7503).I (kS (row (o.v 7500) r)) := fun q => by have := q.1; omega
    | have hg : ¬ goneP (o.v 7501) (o.v 7502).I (o.v 7503).I (kS (row (o.v 7500) r)) := fun q => by
        rw [hK] at q; unfold goneP atV at q; first | rw [if_pos (by assumption)] at q | rw [if_neg (by assumption)] at q
        omega
    | skip
  all_goals first
    | (have hz := al_miss (m := o.v 7501) (now := (o.v 7502).I) (ttl := (o.v 7503).I) ha)
    | (have hz := al_drop ha hg)
    | (have hz := al_keep ha hg; have hO := al_out hl ⟨ha, hg⟩)
  all_goals obtain ⟨hz, hz2⟩ := hz
  all_goals have hle2 := alIx_len (l := o.v 7500) (m := o.v 7501) (now := (o.v 7502).I) (ttl := (o.v 7503).I) (only := o.v 7504) (all := (o.v 7505).B) r
  all_goals (try rw [hm0] at hO)
  all_goals (try simp only [hO])
  all_goals simp only [hz, hz2, hK, hm0]
  all_goals and_intros
  all_goals first | omega | rfl | assumption | trivial
end
theorem ble1 {m : Nat} (h : Nat.ble m 1 = true) : m = 0 \/ m = 1 := by
  have := Nat.le_of_ble_eq_true h; omega
section
variable {o : Env}
def alL (m : Nat) : List (Facts × List Ob) := match m with | 0 => al0L | _ => al1L
theorem alM {m : Nat} (h : (alY.ok0 m || alY.tgt m) = true) : m = 0 \/ m = 1 := by
  rcases Bool.or_eq_true_iff.1 h with h | h
  . exact .inl (m0_of h)
  . exact ble1 h
theorem alY_0 : alY.obl Tryz.prog 0 = some al0L := by kernel_rfl
theorem alY_1 : alY.obl Tryz.prog 1 = some al1L := by kernel_rfl
theorem alY_c : CntM Tryz.prog alY (lenE (.v 7500)) alL := ⟨fun m h => by
    rcases alM h with rfl | rfl
    . exact alY_0
    . exact alY_1, by kernel_rfl, fun m => by cases m <;> rfl, fun _ => rfl, by kernel_rfl, rfl, fun _ => rfl⟩
theorem alY_ok (hu : OU o) : LpOk Tryz.prog o fAlive 3 alY.lpP :=
  alY_c.ok plain mixed (fun o _ _ => nn_len o) (fun e A he => ctr_ok (c := ⟨[(fObjKey, objKeyF.funP), (fObjsWithout, objsWithoutF.funP)], []⟩) (by kernel_rfl) ⟨objKeyF_ok (hu.like he), objsWithoutF_ok (hu.like he), trivial⟩ trivial A)
    (fun e i m he h hm hk hr hl => by
      rcases alM hk with rfl | rfl
      . exact al0_all (hu.like he) hr h hm hl
      . exact al1_all (hu.like he) hr h hm hl)
def rpL (m : Nat) : List (Facts × List Ob) := match m with | 0 => rp0L | _ => rp1L
theorem rpM {m : Nat} (h : (rpY.ok0 m || rpY.tgt m) = true) : m = 0 \/ m = 1 := by
  rcases Bool.or_eq_true_iff.1 h with h | h
  . exact .inl (m0_of h)
  . exact .inr (m1_of h)
theorem rpY_0 : rpY.obl Tryz.prog 0 = some rp0L := by kernel_rfl
theorem rpY_1 : rpY.obl Tryz.prog 1 = some rp1L := by kernel_rfl
theorem rpY_c : CntM Tryz.prog rpY (.uf 167 (pk [.v 7510])) rpL := ⟨fun m h => by
    rcases rpM h with rfl | rfl
    . exact rpY_0
    . exact rpY_1, by kernel_rfl, fun m => by cases m <;> rfl, fun _ => rfl, by kernel_rfl, rfl, fun _ => rfl⟩
theorem rpY_ok (hu : OU o) : LpOk Tryz.prog o fExDo 17 rpY.lpP :=
  rpY_c.ok plain mixed (fun e he _ => by simp only [pk, List.foldr, SS, implies_true, (hu.like he).u167]; omega) (fun e A he => ctr_ok (c := ⟨[(fObjKey, objKeyF.funP), (fObjsWith, objsWithF.funP)], []⟩) (by kernel_rfl) ⟨objKeyF_ok (hu.like he), objsWithF_ok (hu.like he), trivial⟩ trivial A)
    (fun e i m he h hm hk hr hl => by
      rcases rpM hk with rfl | rfl
      . have h0 : i = 0 := by
          have hm : Facts.Hold e [(.o2 .ieq (.v 2141) (.il 0), true)] := hm; have hr : e.v 2141 = .i i := hr; simp only [SS, implies_true, hr] at hm; omega
        subst h0; exact rp0_all (hu.like he) hr h hl
      . exact rp1_all (hu.like he) hr h hl)
theorem atY_c : Cnt1 Tryz.prog atY (lenE (.v 7515)) atL := ⟨by kernel_rfl, by kernel_rfl, rfl, by kernel_rfl, rfl, fun m h => m0_of h, fun m h => m0_of h, fun _ => rfl⟩
theorem atY_ok (hu : OU o) : LpOk Tryz.prog o fExDo 26 atY.lpP :=
  atY_c.ok plain mixed (fun o _ _ => nn_len o) (fun _ _ _ => extOk_none) (fun e i he h hr hl => at_all (hu.like he) hr hl)
end
end Go.Proofs.YtdlppkhmmclipaaGreat.sxObj

