/-
  A STORE WHOSE OBJECTS EXPIRE: the model's history, as it is computed.
-/
import Derived.Test.YtdlppkhmmclipaaGreatSxObE
namespace Go.Proofs.YtdlppkhmmclipaaGreat.sxObj
open Go.Sx Go.RowKit Go.Proofs.YtdlppkhmmclipaaGreat
set_option linter.unusedVariables false
def exEnt (ops ttl : E) : Facts := [(.uf 142 (pk [ops]), true), (.uf 174 (pk [ops]), true), leT (.il (-1099511627776)) ttl, leT ttl (.il 1099511627776), leT (lenE ops) (.il 400)]
def spA (r : E) : E := pk [.v 7530, .v 7531, r]
def spAns : E := .uf 173 (pk [.v 7530, .v 7531])
def spX : Ctr := ⟨[(fObjKey, objKeyF.funP), (fObjsWith, objsWithF.funP), (fObjsWithout, objsWithoutF.funP), (fObjKeys, objKeysF.funP)], [(fAlive, 3, alY.lpP), (fExDo, 17, rpY.lpP), (fExDo, 26, atY.lpP)]⟩
def spY : LoopY where
  f := fSpecEx; key := 4; N := 27; r := 2145; base := 156000
  js := [8] ++ rgN 16 26
  hd := fun m => ⟨[(13, .dsl exK (.v 7530)), (14, iS (lenE (.v 7530))), (5, .ptr 1 (.c 0)), (6, match m with | 0 => .nilsl | _ => .sl 8 6 (.il 0) (.v 2145)), (15, iS (.v 2145))],
    (match m with | 0 => [] | _ => [(8, .row tStAns 6 (.v 2145) (tcCols stK spAns 0) [])]) ++ [(2, atO (.uf 172 (spA (.v 2145)))), (1, .cells tSp [iS (.v 7531), iS (.uf 170 (spA (.v 2145))), (match m with | 1 => .dsl objK (.uf 171 (spA (.v 2145))) | _ => .nilsl), .map 2])], 9,
    (match m with | 0 => [(.o2 .ieq (.v 2145) (.il 0), true)] | 1 => [ltT (.il 0) (.v 2145)] | _ => [ltT (.il 0) (.v 2145), (.o2 .ieq (lenE (.uf 171 (spA (.v 2145)))) (.il 0), true)]) ++ leT (.il 0) (.v 2145) :: leT (.v 2145) (lenE (.v 7530)) :: exEnt (.v 7530) (.v 7531)⟩
  ent := fun _ => exEnt (.v 7530) (.v 7531)
  app := fun _ => true
  ok0 := fun m => Nat.beq m 0
  modeL := fun sl => match nth sl 6 with
    | some .nilsl => .ret 0
    | some (.sl ..) => (match nth sl 5 with | some (.ptr n _) => .get n fun o => (match o with | .cells _ cs => (match nth cs 2 with | some .nilsl => .ret 2 | _ => .ret 1) | _ => .fail) | _ => .fail)
    | _ => .fail
  tgt := fun m => Nat.beq m 1 || Nat.beq m 2
  mf := fun m => match m with | 0 => [(.o2 .ieq (.v 2145) (.il 0), true)] | 1 => [ltT (.il 0) (.v 2145)] | _ => [ltT (.il 0) (.v 2145), (.o2 .ieq (lenE (.uf 171 (spA (.v 2145)))) (.il 0), true)]
  hx := fun _ => ⟨[(13, .top), (14, .top), (5, .top), (6, .dsl stK spAns), (15, .top)], [], 9, []⟩
  xmL := fun _ _ => .ret 0
  exN := fun _ => .exit 0
  exits := [(.bl true, 0)]
  fixed := []
  lt := .o2 .lt (.v 2145) (lenE (.v 7530))
  X := spX.x
  fuel := 800; np := 200
  params := [7530, 7531]
  kds := [(tStAns, stK), (tIObj, objK), (tStr, strK), (tInt, intK)]
end Go.Proofs.YtdlppkhmmclipaaGreat.sxObj
namespace Go.Proofs.YtdlppkhmmclipaaGreat.sxObj
open Go.Sx
set_option linter.unusedVariables false
abbrev og0 : E := .o2 .ieq (.o2 (.cell 0) (.v 7530) (.v 2145)) (.il 1)
abbrev og1 : E := .o2 .lt (.v 2145) (.o1 .tlen (.v 7530))
abbrev og2 : Facts := [(og1, true)]
abbrev og3 : Facts := (((.o2 (.cell 7) (.v 7530) (.v 2145)), true) : E × Bool) :: og2
abbrev og4 : Facts := ((og0, true) : E × Bool) :: og3
abbrev og5 : E := .o2 .cel (.v 7530) (.o2 .cel (.v 7531) (.o2 .cel (.o2 .add (.v 2145) (.il 1)) (.il 0)))
abbrev og6 : E := .uf 173 (.o2 .cel (.v 7530) (.o2 .cel (.v 7531) (.il 0)))
abbrev og7 : E := .o2 (.cell 0) og6 (.il 0)
abbrev og8 : E := .o2 (.cell 1) og6 (.il 0)
abbrev og9 : E := .o2 (.cell 2) og6 (.il 0)
abbrev og10 : E := .o2 (.cell 3) og6 (.il 0)
abbrev og11 : E := .o2 .cel (.v 7530) (.o2 .cel (.v 7531) (.o2 .cel (.v 2145) (.il 0)))
abbrev og12 : List Ob := [(.p (.uf 172 og11) (.uf 172 og5)), (.e (.o2 .ieq (.uf 170 og11) (.uf 170 og5)))]
abbrev og13 : List Ob := ((.e (.o2 .seq (.sl []) (.o2 (.cell 4) og6 (.il 0)))) : Ob) :: ((.t (.il 0) (.o2 (.cell 5) og6 (.il 0))) : Ob) :: og12
abbrev og14 : List Ob := ((.e (.o2 .beq (.bl false) og8)) : Ob) :: ((.t (.il 0) og9) : Ob) :: ((.t (.il 0) og10) : Ob) :: og13
abbrev og15 : List Ob := ((.e (.uf 110 (.o2 .cel (.o2 (.cell 1) (.v 7530) (.v 2145)) (.o2 .cel (.o2 (.cell 2) (.v 7530) (.v 2145)) (.o2 .cel (.o2 (.cell 5) (.v 7530) (.v 2145)) (.il 0)))))) : Ob) :: ((.e (.o2 .ieq (.il 1) og7)) : Ob) :: og14
abbrev og16 : List Ob := ((.e (.o2 .ieq (.o1 .tlen (.uf 171 og5)) (.il 0))) : Ob) :: og15
abbrev og17 : E := .o2 .ieq (.o2 (.cell 0) (.v 7530) (.v 2145)) (.il 2)
abbrev og18 : Facts := ((og0, false) : E × Bool) :: og3
abbrev og19 : Facts := ((og17, true) : E × Bool) :: og18
abbrev og20 : E := .o2 .ieq (.o2 (.cell 0) (.v 7530) (.v 2145)) (.il 4)
abbrev og21 : Facts := ((og17, false) : E × Bool) :: og18
abbrev og22 : Facts := ((og20, true) : E × Bool) :: og21
abbrev og23 : E := .o2 .cel (.o2 (.cell 9) (.v 7530) (.v 2145)) (.il 0)
abbrev og24 : E := .o2 .ieq (.o2 (.cell 0) (.v 7530) (.v 2145)) (.il 3)
abbrev og25 : Facts := ((og20, false) : E × Bool) :: og21
abbrev og26 : Facts := ((og24, true) : E × Bool) :: og25
abbrev og27 : Facts := (((.uf 166 og23), true) : E × Bool) :: og26
abbrev og28 : List Ob := ((.e (.o2 .ieq (.o1 .tlen (.uf 171 og5)) (.il 0))) : Ob) :: ((.e (.o2 .le (.o1 .tlen (.o2 (.cell 9) (.v 7530) (.v 2145))) (.il 20))) : Ob) :: ((.e (.uf 111 og23)) : Ob) :: og15
abbrev og29 : Facts := (((.uf 166 og23), false) : E × Bool) :: og26
abbrev og30 : E := .o2 .cel (.uf 168 og23) (.il 0)
abbrev og31 : E := .o1 .tlen (.uf 103 og30)
abbrev og32 : List Ob := [(.p (.uf 169 (.o2 .cel (.uf 103 og30) (.o2 .cel (.uf 172 og11) (.o2 .cel (.uf 170 og11) (.o2 .cel og31 (.il 0)))))) (.uf 172 og5)), (.e (.o2 .ieq (.uf 170 og11) (.uf 170 og5))), (.t (.uf 168 og23) (.uf 171 og5))]
abbrev og33 : List Ob := ((.p (.uf 172 og11) (.uf 169 (.o2 .cel (.uf 103 og30) (.o2 .cel (.uf 172 og11) (.o2 .cel (.uf 170 og11) (.o2 .cel (.il 0) (.il 0))))))) : Ob) :: ((.e (.o2 .le og31 (.il 1000000))) : Ob) :: ((.e (.o2 .le (.o1 .tlen (.uf 168 og23)) (.il 1000000))) : Ob) :: ((.e (.uf 111 og30)) : Ob) :: ((.e (.o2 .le (.o1 .tlen (.o2 (.cell 9) (.v 7530) (.v 2145))) (.il 20))) : Ob) :: ((.e (.uf 111 og23)) : Ob) :: ((.e (.uf 110 (.o2 .cel (.o2 (.cell 1) (.v 7530) (.v 2145)) (.o2 .cel (.o2 (.cell 2) (.v 7530) (.v 2145)) (.o2 .cel (.o2 (.cell 5) (.v 7530) (.v 2145)) (.il 0)))))) : Ob) :: ((.e (.o2 .ieq (.il 0) og7)) : Ob) :: ((.e (.o2 .beq (.bl false) og8)) : Ob) :: ((.t (.il 0) og9) : Ob) :: ((.t (.il 0) og10) : Ob) :: ((.e (.o2 .seq (.sl []) (.o2 (.cell 4) og6 (.il 0)))) : Ob) :: ((.t (.il 0) (.o2 (.cell 5) og6 (.il 0))) : Ob) :: og32
abbrev og34 : E := .o2 .ieq (.o2 (.cell 0) (.v 7530) (.v 2145)) (.il 5)
abbrev og35 : Facts := ((og24, false) : E × Bool) :: og25
abbrev og36 : Facts := ((og34, true) : E × Bool) :: og35
abbrev og37 : E := .o2 .cel (.uf 172 og11) (.o2 .cel (.uf 170 og11) (.o2 .cel (.v 7531) (.o2 .cel (.sl []) (.o2 .cel (.bl true) (.o2 .cel (.il 0) (.il 0))))))
abbrev og38 : E := .o2 .cel (.il 0) og37
abbrev og39 : E := .o2 .cel (.uf 172 og11) (.o2 .cel (.uf 170 og11) (.o2 .cel (.v 7531) (.o2 .cel (.sl []) (.o2 .cel (.bl true) (.il 0)))))
abbrev og40 : E := .o2 .cel (.il 0) og39
abbrev og41 : List Ob := [(.p (.uf 172 og11) (.uf 172 og5)), (.e (.o2 .ieq (.uf 170 og11) (.uf 170 og5))), (.t (.uf 163 og40) (.uf 171 og5))]
abbrev og42 : List Ob := ((.t (.il 0) (.uf 162 og38)) : Ob) :: ((.e (.o2 .ieq (.uf 161 og38) (.il 0))) : Ob) :: ((.e (.uf 164 (.o2 .cel (.uf 172 og11) (.il 0)))) : Ob) :: ((.e (.o2 .le (.uf 170 og11) (.il 1125899906842624))) : Ob) :: ((.e (.o2 .le (.il 0) (.uf 170 og11))) : Ob) :: ((.e (.uf 111 (.o2 .cel (.il 0) (.il 0)))) : Ob) :: ((.e (.uf 110 (.o2 .cel (.o2 (.cell 1) (.v 7530) (.v 2145)) (.o2 .cel (.o2 (.cell 2) (.v 7530) (.v 2145)) (.o2 .cel (.o2 (.cell 5) (.v 7530) (.v 2145)) (.il 0)))))) : Ob) :: ((.e (.o2 .ieq (.il 0) og7)) : Ob) :: ((.e (.o2 .beq (.bl false) og8)) : Ob) :: ((.t (.uf 160 og40) og9) : Ob) :: ((.t (.il 0) og10) : Ob) :: ((.e (.o2 .seq (.sl []) (.o2 (.cell 4) og6 (.il 0)))) : Ob) :: ((.t (.il 0) (.o2 (.cell 5) og6 (.il 0))) : Ob) :: og41
abbrev og43 : E := .o2 .ieq (.o2 (.cell 0) (.v 7530) (.v 2145)) (.il 6)
abbrev og44 : Facts := ((og34, false) : E × Bool) :: og35
abbrev og45 : Facts := ((og43, true) : E × Bool) :: og44
abbrev og46 : E := .uf 103 (.o2 .cel (.il 0) (.il 0))
abbrev og47 : List Ob := ((.e (.o2 .ieq (.o1 .tlen (.uf 171 og5)) (.il 0))) : Ob) :: ((.e (.uf 111 (.o2 .cel (.il 0) (.il 0)))) : Ob) :: ((.e (.uf 110 (.o2 .cel (.o2 (.cell 1) (.v 7530) (.v 2145)) (.o2 .cel (.o2 (.cell 2) (.v 7530) (.v 2145)) (.o2 .cel (.o2 (.cell 5) (.v 7530) (.v 2145)) (.il 0)))))) : Ob) :: ((.e (.o2 .ieq (.il 0) og7)) : Ob) :: ((.e (.o2 .beq (.bl false) og8)) : Ob) :: ((.t (.il 0) og9) : Ob) :: ((.t og46 og10) : Ob) :: og13
abbrev og48 : E := .o2 .ieq (.o2 (.cell 0) (.v 7530) (.v 2145)) (.il 7)
abbrev og49 : Facts := ((og43, false) : E × Bool) :: og44
abbrev og50 : Facts := ((og48, true) : E × Bool) :: og49
abbrev og51 : E := .o2 .add (.uf 170 og11) (.o2 (.cell 10) (.v 7530) (.v 2145))
abbrev og52 : List Ob := [(.p (.uf 172 og11) (.uf 172 og5)), (.e (.o2 .ieq og51 (.uf 170 og5)))]
abbrev og53 : List Ob := ((.e (.o2 .ieq (.o1 .tlen (.uf 171 og5)) (.il 0))) : Ob) :: ((.e (.o2 .le og51 (.il 9223372036854775807))) : Ob) :: ((.e (.o2 .le (.il (-9223372036854775808)) og51)) : Ob) :: ((.e (.uf 110 (.o2 .cel (.o2 (.cell 1) (.v 7530) (.v 2145)) (.o2 .cel (.o2 (.cell 2) (.v 7530) (.v 2145)) (.o2 .cel (.o2 (.cell 5) (.v 7530) (.v 2145)) (.il 0)))))) : Ob) :: ((.e (.o2 .ieq (.il 0) og7)) : Ob) :: ((.e (.o2 .beq (.bl false) og8)) : Ob) :: ((.t (.il 0) og9) : Ob) :: ((.t (.il 0) og10) : Ob) :: ((.e (.o2 .seq (.sl []) (.o2 (.cell 4) og6 (.il 0)))) : Ob) :: ((.t (.il 0) (.o2 (.cell 5) og6 (.il 0))) : Ob) :: og52
abbrev og54 : Facts := ((og48, false) : E × Bool) :: og49
abbrev og55 : List Ob := ((.e (.o2 .ieq (.o1 .tlen (.uf 171 og5)) (.il 0))) : Ob) :: ((.e (.uf 110 (.o2 .cel (.o2 (.cell 1) (.v 7530) (.v 2145)) (.o2 .cel (.o2 (.cell 2) (.v 7530) (.v 2145)) (.o2 .cel (.o2 (.cell 5) (.v 7530) (.v 2145)) (.il 0)))))) : Ob) :: ((.e (.o2 .ieq (.il 0) og7)) : Ob) :: og14
abbrev og56 : Facts := (((.o2 (.cell 7) (.v 7530) (.v 2145)), false) : E × Bool) :: og2
abbrev og57 : Facts := ((og0, true) : E × Bool) :: og56
abbrev og58 : E := .uf 100 (.o2 .cel (.o2 (.cell 1) (.v 7530) (.v 2145)) (.o2 .cel (.o2 (.cell 2) (.v 7530) (.v 2145)) (.il 0)))
abbrev og59 : E := .o2 .cel (.o2 (.cell 1) (.v 7530) (.v 2145)) (.o2 .cel (.o2 (.cell 2) (.v 7530) (.v 2145)) (.o2 .cel (.o2 (.cell 3) (.v 7530) (.v 2145)) (.o2 .cel (.o2 (.cell 4) (.v 7530) (.v 2145)) (.o2 .cel (.o2 (.cell 5) (.v 7530) (.v 2145)) (.o2 .cel (.o2 (.cell 6) (.v 7530) (.v 2145)) (.o2 .cel (.o2 (.cell 7) (.v 7530) (.v 2145)) (.o2 .cel (.o2 (.cell 8) (.v 7530) (.v 2145)) (.il 0))))))))
abbrev og60 : List Ob := [(.p (.o2 (.mp .s) (.uf 172 og11) (.o2 .cel og58 (.o2 .cel (.uf 170 og11) (.il 0)))) (.uf 172 og5)), (.e (.o2 .ieq (.uf 170 og11) (.uf 170 og5))), (.t (.uf 107 (.o2 .cel (.il 0) og59)) (.uf 171 og5))]
abbrev og61 : Facts := ((og0, false) : E × Bool) :: og56
abbrev og62 : Facts := ((og17, true) : E × Bool) :: og61
abbrev og63 : E := .o2 .cel og58 (.il 0)
abbrev og64 : List Ob := [(.p (.uf 172 og11) (.uf 172 og5)), (.e (.o2 .ieq (.uf 170 og11) (.uf 170 og5))), (.t (.uf 108 (.o2 .cel (.il 0) og63)) (.uf 171 og5))]
abbrev og65 : Facts := ((og17, false) : E × Bool) :: og61
abbrev og66 : Facts := ((og20, true) : E × Bool) :: og65
abbrev og67 : E := .o2 .cel (.uf 172 og11) (.o2 .cel (.uf 170 og11) (.o2 .cel (.v 7531) (.o2 .cel og58 (.o2 .cel (.bl false) (.o2 .cel (.il 0) (.il 0))))))
abbrev og68 : E := .o2 .cel (.il 0) og67
abbrev og69 : E := .o2 .cel (.uf 172 og11) (.o2 .cel (.uf 170 og11) (.o2 .cel (.v 7531) (.o2 .cel og58 (.o2 .cel (.bl false) (.il 0)))))
abbrev og70 : E := .o2 .cel (.il 0) og69
abbrev og71 : E := .o2 .lt (.il 0) (.o1 .tlen (.uf 160 og70))
abbrev og72 : List Ob := [(.p (.uf 172 og11) (.uf 172 og5)), (.e (.o2 .ieq (.uf 170 og11) (.uf 170 og5))), (.t (.uf 163 og70) (.uf 171 og5))]
abbrev og73 : Facts := ((og20, false) : E × Bool) :: og65
abbrev og74 : Facts := ((og24, true) : E × Bool) :: og73
abbrev og75 : Facts := (((.uf 166 og23), true) : E × Bool) :: og74
abbrev og76 : Facts := (((.uf 166 og23), false) : E × Bool) :: og74
abbrev og77 : Facts := ((og24, false) : E × Bool) :: og73
abbrev og78 : Facts := ((og34, true) : E × Bool) :: og77
abbrev og79 : Facts := ((og34, false) : E × Bool) :: og77
abbrev og80 : Facts := ((og43, true) : E × Bool) :: og79
abbrev og81 : Facts := ((og43, false) : E × Bool) :: og79
abbrev og82 : Facts := ((og48, true) : E × Bool) :: og81
abbrev og83 : Facts := ((og48, false) : E × Bool) :: og81
abbrev og84 : Facts := [(og1, false)]
def sp0L : List (Facts × List Ob) :=
  [(og4,
    og16),
   (og19,
    og16),
   (og22,
    og16),
   (og27,
    og28),
   (og29,
    og33),
   (og36,
    og42),
   (og45,
    og47),
   (og50,
    og53),
   (og54,
    og55),
   (og57,
    (((.e (.uf 110 (.o2 .cel (.o2 (.cell 1) (.v 7530) (.v 2145)) (.o2 .cel (.o2 (.cell 2) (.v 7530) (.v 2145)) (.o2 .cel (.o2 (.cell 5) (.v 7530) (.v 2145)) (.il 0)))))) : Ob) :: ((.e (.uf 111 (.o2 .cel (.il 0) (.il 0)))) : Ob) :: ((.e (.uf 110 (.o2 .cel (.o2 (.cell 1) (.v 7530) (.v 2145)) (.o2 .cel (.o2 (.cell 2) (.v 7530) (.v 2145)) (.o2 .cel (.o2 (.cell 5) (.v 7530) (.v 2145)) (.il 0)))))) : Ob) :: ((.e (.o2 .ieq (.il 0) og7)) : Ob) :: ((.e (.o2 .beq (.bl false) og8)) : Ob) :: ((.t (.il 0) og9) : Ob) :: ((.t (.il 0) og10) : Ob) :: ((.e (.o2 .seq (.sl []) (.o2 (.cell 4) og6 (.il 0)))) : Ob) :: ((.t (.il 0) (.o2 (.cell 5) og6 (.il 0))) : Ob) :: og60)),
   (og62,
    (((.e (.uf 111 (.o2 .cel (.il 0) (.il 0)))) : Ob) :: ((.e (.uf 110 (.o2 .cel (.o2 (.cell 1) (.v 7530) (.v 2145)) (.o2 .cel (.o2 (.cell 2) (.v 7530) (.v 2145)) (.o2 .cel (.o2 (.cell 5) (.v 7530) (.v 2145)) (.il 0)))))) : Ob) :: ((.e (.o2 .ieq (.il 0) og7)) : Ob) :: ((.e (.o2 .beq (.bl false) og8)) : Ob) :: ((.t (.il 0) og9) : Ob) :: ((.t (.il 0) og10) : Ob) :: ((.e (.o2 .seq (.sl []) (.o2 (.cell 4) og6 (.il 0)))) : Ob) :: ((.t (.il 0) (.o2 (.cell 5) og6 (.il 0))) : Ob) :: og64)),
   (og66,
    (((.t (.il 0) (.uf 162 og68)) : Ob) :: ((.e (.o2 .ieq (.uf 161 og68) (.il 0))) : Ob) :: ((.e (.uf 164 (.o2 .cel (.uf 172 og11) (.il 0)))) : Ob) :: ((.e (.o2 .le (.uf 170 og11) (.il 1125899906842624))) : Ob) :: ((.e (.o2 .le (.il 0) (.uf 170 og11))) : Ob) :: ((.e (.uf 111 (.o2 .cel (.il 0) (.il 0)))) : Ob) :: ((.e (.uf 110 (.o2 .cel (.o2 (.cell 1) (.v 7530) (.v 2145)) (.o2 .cel (.o2 (.cell 2) (.v 7530) (.v 2145)) (.o2 .cel (.o2 (.cell 5) (.v 7530) (.v 2145)) (.il 0)))))) : Ob) :: ((.e (.o2 .ieq (.il 0) og7)) : Ob) :: ((.e (.o2 .beq og71 og8)) : Ob) :: ((.t (.uf 160 og70) og9) : Ob) :: ((.t (.il 0) og10) : Ob) :: ((.e (.o2 .seq (.sl []) (.o2 (.cell 4) og6 (.il 0)))) : Ob) :: ((.t (.il 0) (.o2 (.cell 5) og6 (.il 0))) : Ob) :: og72)),
   (og75,
    og28),
   (og76,
    og33),
   (og78,
    og42),
   (og80,
    og47),
   (og82,
    og53),
   (og83,
    og55),
   (og84,
    [(.t (.il 0) og6)])]
abbrev og85 : E := .o2 (.cell 0) og6 (.v 2145)
abbrev og86 : E := .o2 (.cell 1) og6 (.v 2145)
abbrev og87 : E := .o2 (.cell 2) og6 (.v 2145)
abbrev og88 : E := .o2 (.cell 3) og6 (.v 2145)
abbrev og89 : List Ob := [(.t (.uf 171 og11) (.uf 171 og5))]
abbrev og90 : List Ob := ((.e (.o2 .seq (.sl []) (.o2 (.cell 4) og6 (.v 2145)))) : Ob) :: ((.t (.il 0) (.o2 (.cell 5) og6 (.v 2145))) : Ob) :: ((.p (.uf 172 og11) (.uf 172 og5)) : Ob) :: ((.e (.o2 .ieq (.uf 170 og11) (.uf 170 og5))) : Ob) :: og89
abbrev og91 : List Ob := ((.e (.o2 .beq (.bl false) og86)) : Ob) :: ((.t (.il 0) og87) : Ob) :: ((.t (.il 0) og88) : Ob) :: og90
abbrev og92 : List Ob := ((.e (.uf 110 (.o2 .cel (.o2 (.cell 1) (.v 7530) (.v 2145)) (.o2 .cel (.o2 (.cell 2) (.v 7530) (.v 2145)) (.o2 .cel (.o2 (.cell 5) (.v 7530) (.v 2145)) (.il 0)))))) : Ob) :: ((.e (.o2 .ieq (.il 1) og85)) : Ob) :: og91
abbrev og93 : List Ob := ((.e (.o2 .le (.o1 .tlen (.o2 (.cell 9) (.v 7530) (.v 2145))) (.il 20))) : Ob) :: ((.e (.uf 111 og23)) : Ob) :: og92
abbrev og94 : List Ob := ((.p (.uf 172 og11) (.uf 169 (.o2 .cel (.uf 103 og30) (.o2 .cel (.uf 172 og11) (.o2 .cel (.uf 170 og11) (.o2 .cel (.il 0) (.il 0))))))) : Ob) :: ((.e (.o2 .le og31 (.il 1000000))) : Ob) :: ((.e (.o2 .le (.o1 .tlen (.uf 168 og23)) (.il 1000000))) : Ob) :: ((.e (.uf 111 og30)) : Ob) :: ((.e (.o2 .le (.o1 .tlen (.o2 (.cell 9) (.v 7530) (.v 2145))) (.il 20))) : Ob) :: ((.e (.uf 111 og23)) : Ob) :: ((.e (.uf 110 (.o2 .cel (.o2 (.cell 1) (.v 7530) (.v 2145)) (.o2 .cel (.o2 (.cell 2) (.v 7530) (.v 2145)) (.o2 .cel (.o2 (.cell 5) (.v 7530) (.v 2145)) (.il 0)))))) : Ob) :: ((.e (.o2 .ieq (.il 0) og85)) : Ob) :: ((.e (.o2 .beq (.bl false) og86)) : Ob) :: ((.t (.il 0) og87) : Ob) :: ((.t (.il 0) og88) : Ob) :: ((.e (.o2 .seq (.sl []) (.o2 (.cell 4) og6 (.v 2145)))) : Ob) :: ((.t (.il 0) (.o2 (.cell 5) og6 (.v 2145))) : Ob) :: og32
abbrev og95 : E := .o2 .cel (.uf 171 og11) og37
abbrev og96 : E := .o2 .cel (.uf 171 og11) (.il 0)
abbrev og97 : E := .o2 .cel (.uf 171 og11) og39
abbrev og98 : List Ob := [(.t (.uf 171 og11) (.uf 162 og95)), (.e (.o2 .ieq (.uf 161 og95) (.il 0))), (.e (.uf 164 (.o2 .cel (.uf 172 og11) (.il 0)))), (.e (.o2 .le (.uf 170 og11) (.il 1125899906842624))), (.e (.o2 .le (.il 0) (.uf 170 og11))), (.e (.o2 .le (.o1 .tlen (.uf 171 og11)) (.il 1000000))), (.e (.uf 111 og96)), (.e (.uf 110 (.o2 .cel (.o2 (.cell 1) (.v 7530) (.v 2145)) (.o2 .cel (.o2 (.cell 2) (.v 7530) (.v 2145)) (.o2 .cel (.o2 (.cell 5) (.v 7530) (.v 2145)) (.il 0)))))), (.e (.o2 .ieq (.il 0) og85)), (.e (.o2 .beq (.bl false) og86)), (.t (.uf 160 og97) og87), (.t (.il 0) og88), (.e (.o2 .seq (.sl []) (.o2 (.cell 4) og6 (.v 2145)))), (.t (.il 0) (.o2 (.cell 5) og6 (.v 2145))), (.p (.uf 172 og11) (.uf 172 og5)), (.e (.o2 .ieq (.uf 170 og11) (.uf 170 og5))), (.t (.uf 163 og97) (.uf 171 og5))]
abbrev og99 : List Ob := ((.e (.o2 .le (.o1 .tlen (.uf 171 og11)) (.il 1000000))) : Ob) :: ((.e (.uf 111 og96)) : Ob) :: ((.e (.uf 110 (.o2 .cel (.o2 (.cell 1) (.v 7530) (.v 2145)) (.o2 .cel (.o2 (.cell 2) (.v 7530) (.v 2145)) (.o2 .cel (.o2 (.cell 5) (.v 7530) (.v 2145)) (.il 0)))))) : Ob) :: ((.e (.o2 .ieq (.il 0) og85)) : Ob) :: ((.e (.o2 .beq (.bl false) og86)) : Ob) :: ((.t (.il 0) og87) : Ob) :: ((.t (.uf 103 og96) og88) : Ob) :: og90
abbrev og100 : List Ob := ((.e (.o2 .le og51 (.il 9223372036854775807))) : Ob) :: ((.e (.o2 .le (.il (-9223372036854775808)) og51)) : Ob) :: ((.e (.uf 110 (.o2 .cel (.o2 (.cell 1) (.v 7530) (.v 2145)) (.o2 .cel (.o2 (.cell 2) (.v 7530) (.v 2145)) (.o2 .cel (.o2 (.cell 5) (.v 7530) (.v 2145)) (.il 0)))))) : Ob) :: ((.e (.o2 .ieq (.il 0) og85)) : Ob) :: ((.e (.o2 .beq (.bl false) og86)) : Ob) :: ((.t (.il 0) og87) : Ob) :: ((.t (.il 0) og88) : Ob) :: ((.e (.o2 .seq (.sl []) (.o2 (.cell 4) og6 (.v 2145)))) : Ob) :: ((.t (.il 0) (.o2 (.cell 5) og6 (.v 2145))) : Ob) :: ((.p (.uf 172 og11) (.uf 172 og5)) : Ob) :: ((.e (.o2 .ieq og51 (.uf 170 og5))) : Ob) :: og89
abbrev og101 : List Ob := ((.e (.uf 110 (.o2 .cel (.o2 (.cell 1) (.v 7530) (.v 2145)) (.o2 .cel (.o2 (.cell 2) (.v 7530) (.v 2145)) (.o2 .cel (.o2 (.cell 5) (.v 7530) (.v 2145)) (.il 0)))))) : Ob) :: ((.e (.o2 .ieq (.il 0) og85)) : Ob) :: og91
abbrev og102 : E := .o2 .cel (.uf 171 og11) og67
abbrev og103 : E := .o2 .cel (.uf 171 og11) og69
abbrev og104 : E := .uf 160 og103
abbrev og105 : List Ob := [(.e (.o2 .le (.v 2145) (.o1 .tlen og6))), (.t (.o2 .ttake og6 (.v 2145)) og6)]
def sp1L : List (Facts × List Ob) :=
  [(og4,
    og92),
   (og19,
    og92),
   (og22,
    og92),
   (og27,
    og93),
   (og29,
    og94),
   (og36,
    og98),
   (og45,
    og99),
   (og50,
    og100),
   (og54,
    og101),
   (og57,
    [(.e (.o2 .le (.o1 .tlen (.uf 171 og11)) (.il 1000000))), (.e (.uf 110 (.o2 .cel (.o2 (.cell 1) (.v 7530) (.v 2145)) (.o2 .cel (.o2 (.cell 2) (.v 7530) (.v 2145)) (.o2 .cel (.o2 (.cell 5) (.v 7530) (.v 2145)) (.il 0)))))), (.e (.uf 111 og96)), (.e (.uf 110 (.o2 .cel (.o2 (.cell 1) (.v 7530) (.v 2145)) (.o2 .cel (.o2 (.cell 2) (.v 7530) (.v 2145)) (.o2 .cel (.o2 (.cell 5) (.v 7530) (.v 2145)) (.il 0)))))), (.e (.o2 .ieq (.il 0) og85)), (.e (.o2 .beq (.bl false) og86)), (.t (.il 0) og87), (.t (.il 0) og88), (.e (.o2 .seq (.sl []) (.o2 (.cell 4) og6 (.v 2145)))), (.t (.il 0) (.o2 (.cell 5) og6 (.v 2145))), (.p (.o2 (.mp .s) (.uf 172 og11) (.o2 .cel og58 (.o2 .cel (.uf 170 og11) (.il 0)))) (.uf 172 og5)), (.e (.o2 .ieq (.uf 170 og11) (.uf 170 og5))), (.t (.uf 107 (.o2 .cel (.uf 171 og11) og59)) (.uf 171 og5))]),
   (og62,
    [(.e (.o2 .le (.o1 .tlen (.uf 171 og11)) (.il 1000000))), (.e (.uf 111 og96)), (.e (.uf 110 (.o2 .cel (.o2 (.cell 1) (.v 7530) (.v 2145)) (.o2 .cel (.o2 (.cell 2) (.v 7530) (.v 2145)) (.o2 .cel (.o2 (.cell 5) (.v 7530) (.v 2145)) (.il 0)))))), (.e (.o2 .ieq (.il 0) og85)), (.e (.o2 .beq (.bl false) og86)), (.t (.il 0) og87), (.t (.il 0) og88), (.e (.o2 .seq (.sl []) (.o2 (.cell 4) og6 (.v 2145)))), (.t (.il 0) (.o2 (.cell 5) og6 (.v 2145))), (.p (.uf 172 og11) (.uf 172 og5)), (.e (.o2 .ieq (.uf 170 og11) (.uf 170 og5))), (.t (.uf 108 (.o2 .cel (.uf 171 og11) og63)) (.uf 171 og5))]),
   (og66,
    [(.t (.uf 171 og11) (.uf 162 og102)), (.e (.o2 .ieq (.uf 161 og102) (.il 0))), (.e (.uf 164 (.o2 .cel (.uf 172 og11) (.il 0)))), (.e (.o2 .le (.uf 170 og11) (.il 1125899906842624))), (.e (.o2 .le (.il 0) (.uf 170 og11))), (.e (.o2 .le (.o1 .tlen (.uf 171 og11)) (.il 1000000))), (.e (.uf 111 og96)), (.e (.uf 110 (.o2 .cel (.o2 (.cell 1) (.v 7530) (.v 2145)) (.o2 .cel (.o2 (.cell 2) (.v 7530) (.v 2145)) (.o2 .cel (.o2 (.cell 5) (.v 7530) (.v 2145)) (.il 0)))))), (.e (.o2 .ieq (.il 0) og85)), (.e (.o2 .beq (.o2 .lt (.il 0) (.o1 .tlen og104)) og86)), (.t og104 og87), (.t (.il 0) og88), (.e (.o2 .seq (.sl []) (.o2 (.cell 4) og6 (.v 2145)))), (.t (.il 0) (.o2 (.cell 5) og6 (.v 2145))), (.p (.uf 172 og11) (.uf 172 og5)), (.e (.o2 .ieq (.uf 170 og11) (.uf 170 og5))), (.t (.uf 163 og103) (.uf 171 og5))]),
   (og75,
    og93),
   (og76,
    og94),
   (og78,
    og98),
   (og80,
    og99),
   (og82,
    og100),
   (og83,
    og101),
   (og84,
    og105)]
abbrev og106 : List Ob := ((.e (.o2 .seq (.sl []) (.o2 (.cell 4) og6 (.v 2145)))) : Ob) :: ((.t (.il 0) (.o2 (.cell 5) og6 (.v 2145))) : Ob) :: og12
abbrev og107 : List Ob := ((.e (.o2 .beq (.bl false) og86)) : Ob) :: ((.t (.il 0) og87) : Ob) :: ((.t (.il 0) og88) : Ob) :: og106
abbrev og108 : List Ob := ((.e (.uf 110 (.o2 .cel (.o2 (.cell 1) (.v 7530) (.v 2145)) (.o2 .cel (.o2 (.cell 2) (.v 7530) (.v 2145)) (.o2 .cel (.o2 (.cell 5) (.v 7530) (.v 2145)) (.il 0)))))) : Ob) :: ((.e (.o2 .ieq (.il 1) og85)) : Ob) :: og107
abbrev og109 : List Ob := ((.e (.o2 .ieq (.o1 .tlen (.uf 171 og5)) (.il 0))) : Ob) :: og108
abbrev og110 : List Ob := ((.e (.o2 .ieq (.o1 .tlen (.uf 171 og5)) (.il 0))) : Ob) :: ((.e (.o2 .le (.o1 .tlen (.o2 (.cell 9) (.v 7530) (.v 2145))) (.il 20))) : Ob) :: ((.e (.uf 111 og23)) : Ob) :: og108
abbrev og111 : List Ob := ((.t (.il 0) (.uf 162 og38)) : Ob) :: ((.e (.o2 .ieq (.uf 161 og38) (.il 0))) : Ob) :: ((.e (.uf 164 (.o2 .cel (.uf 172 og11) (.il 0)))) : Ob) :: ((.e (.o2 .le (.uf 170 og11) (.il 1125899906842624))) : Ob) :: ((.e (.o2 .le (.il 0) (.uf 170 og11))) : Ob) :: ((.e (.uf 111 (.o2 .cel (.il 0) (.il 0)))) : Ob) :: ((.e (.uf 110 (.o2 .cel (.o2 (.cell 1) (.v 7530) (.v 2145)) (.o2 .cel (.o2 (.cell 2) (.v 7530) (.v 2145)) (.o2 .cel (.o2 (.cell 5) (.v 7530) (.v 2145)) (.il 0)))))) : Ob) :: ((.e (.o2 .ieq (.il 0) og85)) : Ob) :: ((.e (.o2 .beq (.bl false) og86)) : Ob) :: ((.t (.uf 160 og40) og87) : Ob) :: ((.t (.il 0) og88) : Ob) :: ((.e (.o2 .seq (.sl []) (.o2 (.cell 4) og6 (.v 2145)))) : Ob) :: ((.t (.il 0) (.o2 (.cell 5) og6 (.v 2145))) : Ob) :: og41
abbrev og112 : List Ob := ((.e (.o2 .ieq (.o1 .tlen (.uf 171 og5)) (.il 0))) : Ob) :: ((.e (.uf 111 (.o2 .cel (.il 0) (.il 0)))) : Ob) :: ((.e (.uf 110 (.o2 .cel (.o2 (.cell 1) (.v 7530) (.v 2145)) (.o2 .cel (.o2 (.cell 2) (.v 7530) (.v 2145)) (.o2 .cel (.o2 (.cell 5) (.v 7530) (.v 2145)) (.il 0)))))) : Ob) :: ((.e (.o2 .ieq (.il 0) og85)) : Ob) :: ((.e (.o2 .beq (.bl false) og86)) : Ob) :: ((.t (.il 0) og87) : Ob) :: ((.t og46 og88) : Ob) :: og106
abbrev og113 : List Ob := ((.e (.o2 .ieq (.o1 .tlen (.uf 171 og5)) (.il 0))) : Ob) :: ((.e (.o2 .le og51 (.il 9223372036854775807))) : Ob) :: ((.e (.o2 .le (.il (-9223372036854775808)) og51)) : Ob) :: ((.e (.uf 110 (.o2 .cel (.o2 (.cell 1) (.v 7530) (.v 2145)) (.o2 .cel (.o2 (.cell 2) (.v 7530) (.v 2145)) (.o2 .cel (.o2 (.cell 5) (.v 7530) (.v 2145)) (.il 0)))))) : Ob) :: ((.e (.o2 .ieq (.il 0) og85)) : Ob) :: ((.e (.o2 .beq (.bl false) og86)) : Ob) :: ((.t (.il 0) og87) : Ob) :: ((.t (.il 0) og88) : Ob) :: ((.e (.o2 .seq (.sl []) (.o2 (.cell 4) og6 (.v 2145)))) : Ob) :: ((.t (.il 0) (.o2 (.cell 5) og6 (.v 2145))) : Ob) :: og52
abbrev og114 : List Ob := ((.e (.o2 .ieq (.o1 .tlen (.uf 171 og5)) (.il 0))) : Ob) :: ((.e (.uf 110 (.o2 .cel (.o2 (.cell 1) (.v 7530) (.v 2145)) (.o2 .cel (.o2 (.cell 2) (.v 7530) (.v 2145)) (.o2 .cel (.o2 (.cell 5) (.v 7530) (.v 2145)) (.il 0)))))) : Ob) :: ((.e (.o2 .ieq (.il 0) og85)) : Ob) :: og107
def sp2L : List (Facts × List Ob) :=
  [(og4,
    og109),
   (og19,
    og109),
   (og22,
    og109),
   (og27,
    og110),
   (og29,
    og94),
   (og36,
    og111),
   (og45,
    og112),
   (og50,
    og113),
   (og54,
    og114),
   (og57,
    (((.e (.uf 110 (.o2 .cel (.o2 (.cell 1) (.v 7530) (.v 2145)) (.o2 .cel (.o2 (.cell 2) (.v 7530) (.v 2145)) (.o2 .cel (.o2 (.cell 5) (.v 7530) (.v 2145)) (.il 0)))))) : Ob) :: ((.e (.uf 111 (.o2 .cel (.il 0) (.il 0)))) : Ob) :: ((.e (.uf 110 (.o2 .cel (.o2 (.cell 1) (.v 7530) (.v 2145)) (.o2 .cel (.o2 (.cell 2) (.v 7530) (.v 2145)) (.o2 .cel (.o2 (.cell 5) (.v 7530) (.v 2145)) (.il 0)))))) : Ob) :: ((.e (.o2 .ieq (.il 0) og85)) : Ob) :: ((.e (.o2 .beq (.bl false) og86)) : Ob) :: ((.t (.il 0) og87) : Ob) :: ((.t (.il 0) og88) : Ob) :: ((.e (.o2 .seq (.sl []) (.o2 (.cell 4) og6 (.v 2145)))) : Ob) :: ((.t (.il 0) (.o2 (.cell 5) og6 (.v 2145))) : Ob) :: og60)),
   (og62,
    (((.e (.uf 111 (.o2 .cel (.il 0) (.il 0)))) : Ob) :: ((.e (.uf 110 (.o2 .cel (.o2 (.cell 1) (.v 7530) (.v 2145)) (.o2 .cel (.o2 (.cell 2) (.v 7530) (.v 2145)) (.o2 .cel (.o2 (.cell 5) (.v 7530) (.v 2145)) (.il 0)))))) : Ob) :: ((.e (.o2 .ieq (.il 0) og85)) : Ob) :: ((.e (.o2 .beq (.bl false) og86)) : Ob) :: ((.t (.il 0) og87) : Ob) :: ((.t (.il 0) og88) : Ob) :: ((.e (.o2 .seq (.sl []) (.o2 (.cell 4) og6 (.v 2145)))) : Ob) :: ((.t (.il 0) (.o2 (.cell 5) og6 (.v 2145))) : Ob) :: og64)),
   (og66,
    (((.t (.il 0) (.uf 162 og68)) : Ob) :: ((.e (.o2 .ieq (.uf 161 og68) (.il 0))) : Ob) :: ((.e (.uf 164 (.o2 .cel (.uf 172 og11) (.il 0)))) : Ob) :: ((.e (.o2 .le (.uf 170 og11) (.il 1125899906842624))) : Ob) :: ((.e (.o2 .le (.il 0) (.uf 170 og11))) : Ob) :: ((.e (.uf 111 (.o2 .cel (.il 0) (.il 0)))) : Ob) :: ((.e (.uf 110 (.o2 .cel (.o2 (.cell 1) (.v 7530) (.v 2145)) (.o2 .cel (.o2 (.cell 2) (.v 7530) (.v 2145)) (.o2 .cel (.o2 (.cell 5) (.v 7530) (.v 2145)) (.il 0)))))) : Ob) :: ((.e (.o2 .ieq (.il 0) og85)) : Ob) :: ((.e (.o2 .beq og71 og86)) : Ob) :: ((.t (.uf 160 og70) og87) : Ob) :: ((.t (.il 0) og88) : Ob) :: ((.e (.o2 .seq (.sl []) (.o2 (.cell 4) og6 (.v 2145)))) : Ob) :: ((.t (.il 0) (.o2 (.cell 5) og6 (.v 2145))) : Ob) :: og72)),
   (og75,
    og110),
   (og76,
    og94),
   (og78,
    og111),
   (og80,
    og112),
   (og82,
    og113),
   (og83,
    og114),
   (og84,
    og105)]
end Go.Proofs.YtdlppkhmmclipaaGreat.sxObj
namespace Go.Proofs.YtdlppkhmmclipaaGreat.sxObj
open Go.Sx Go.RowKit Go.Proofs.YtdlppkhmmclipaaGreat
set_option linter.unusedVariables false
set_option linter.unusedSimpArgs false
set_option maxRecDepth 100000
theorem fits18_ok {l : Dv} (h : fits18 l) : okRows l.T := fun r hr => by
  obtain ⟨n, hn, rfl⟩ := mem_row hr; obtain ⟨a, b, _, _, c, _⟩ := h.1 n hn; exact ⟨a, b, c.2⟩
theorem okRows_nil : okRows (Dv.i 0).T := fun _ q => by cases q
theorem mput_mem {q : KQ} {l : List Row} {x r : Row} (h : r ∈ mput q l x) : r = x \/ r ∈ l := by
  unfold mput at h; split at h
  . exact (List.mem_or_eq_of_mem_set h).symm
  . rcases List.mem_append.1 h with h | h
    . exact .inr h
    . exact .inl (List.mem_singleton.1 h)
theorem times_put {l : List Row} {k now : Dv} (h : timesOk (.t l)) (h1 : 0 <= now.I) (h2 : now.I <= 1125899906842624) : timesOk (.t (mput .s l [k, now])) := fun r hr => by
  rcases mput_mem hr with rfl | hr
  . exact ⟨h1, h2⟩
  . exact h r hr
theorem times_at {ks m now : Dv} (h : timesOk m) (h1 : 0 <= now.I) (h2 : now.I <= 1125899906842624) : ∀ n, timesOk (.t (atT ks m now n))
  | 0 => h
  | n + 1 => times_put (times_at h h1 h2 n) h1 h2
structure OpIn (p : Row) : Prop where
  k : okRow (opObj p)
  l : okRows (cc p 9).T
  n : (cc p 9).T.length <= 20
  t0 : 0 <= (cc p 10).I
  t1 : (cc p 10).I <= 1099511627776
structure SpIn (s : Sp) (n : Nat) : Prop where
  k : okRows s.S
  l : s.S.length <= 20 * n
  t : timesOk (.t s.M)
  t0 : 0 <= s.now
  t1 : s.now <= 1099511627776 * n
theorem step_in {ttl : Int} {p : Row} {s : Sp} {n : Nat} (h : SpIn s n) (hp : OpIn p) (hn : n <= 400) : SpIn (spStep ttl p s).1 (n + 1) := by
  obtain ⟨a, b, c, d, e⟩ := h; have e2 : s.now <= 1125899906842624 := by omega
  have same : SpIn s (n + 1) := ⟨a, by omega, c, d, by omega⟩
  unfold spStep; split
  . exact same
  split
  . exact ⟨with_ok (l := .t _) a hp.k, by have := @with_len (.t s.S) (opKey p) (opObj p); simp only [T_t] at this; show (withT _ _ _).length <= _; omega, times_put (now := .i s.now) c d e2, d, by show s.now <= _; omega⟩
  split
  . exact ⟨without_ok (l := .t _) a, by have := @without_len (.t s.S) (opKey p); simp only [T_t] at this; show (withoutT _ _).length <= _; omega, c, d, by show s.now <= _; omega⟩
  split
  . split
    . exact ⟨reps_ok hp.l _ (Nat.le_refl _), by have := @reps_len (cc p 9) (cc p 9).T.length; have := hp.n; show (repsT _ _).length <= _; omega, times_at (now := .i s.now) c d e2 _, d, by show s.now <= _; omega⟩
    . exact same
  split
  . exact ⟨alS_ok (l := .t _) a _, by have := @alS_len (.t s.S) (.t s.M) s.now ttl (.s (opKey p)) false s.S.length; simp only [T_t] at this; show (alST _ _ _ _ _ _ _).length <= _; omega, c, d, by show s.now <= _; omega⟩
  split
  . exact ⟨alS_ok (l := .t _) a _, by have := @alS_len (.t s.S) (.t s.M) s.now ttl (.s ⟨[].toArray⟩) true s.S.length; simp only [T_t] at this; show (alST _ _ _ _ _ _ _).length <= _; omega, c, d, by show s.now <= _; omega⟩
  split
  . exact same
  split
  . have := hp.t0; have := hp.t1; exact ⟨a, by show s.S.length <= _; omega, c, by show 0 <= s.now + _; omega, by show s.now + _ <= _; omega⟩
  . exact same
theorem sp_in {ops : Dv} {ttl : Int} (h : ∀ n, n < ops.T.length -> OpIn (row ops n)) (hl : ops.T.length <= 400) : ∀ n, n <= ops.T.length -> SpIn (spSt ops ttl n) n
  | 0, _ => ⟨okRows_nil, Nat.le_refl _, (fun _ q => by cases q), Int.le_refl _, Int.le_refl _⟩
  | n + 1, hn => step_in (sp_in h hl n (by omega)) (h n (by omega)) (by omega)
theorem op_in {ops : Dv} (h1 : fits35 ops) (h2 : exFine ops) {n : Nat} (hn : n < ops.T.length) : OpIn (row ops n) := by
  obtain ⟨⟨a, b, _, _, c, _⟩, d⟩ := h1.1 n hn; obtain ⟨_, _, _, e, f, g⟩ := h2.1 n hn; exact ⟨⟨a, b, c.2⟩, fits18_ok d, e.2, f, g⟩
theorem ans_row {ops : Dv} {ttl : Int} {n : Nat} (h : n < ops.T.length) : row (.t (spAnsT ops ttl)) n = (spStep ttl (row ops n) (spSt ops ttl n)).2 := by
  unfold row spAnsT; show ((List.map _ _)[n]?).getD [] = _; rw [List.getElem?_map, List.getElem?_range h]; rfl
theorem ok_ans {l x y : List Row} {e : Int} : decide ((0 : Int) < (l.length : Nat)) = (cc (ansRow e (decide (0 < l.length)) x y) 1).B := by
  show decide _ = decide (0 < l.length); exact decide_eq_decide.2 (by omega)
theorem ans_len {ops : Dv} {ttl : Int} : (spAnsT ops ttl).length = ops.T.length := by
  unfold spAnsT; rw [List.length_map, List.length_range]
section
variable {o : Env}
theorem sp1_all (hu : OU o) {r : Nat} (hr : o.v 2145 = .i r) (hent : (spY.ent 0).Hold o) (hmf : (spY.mf 1).Hold o) (hle : (r : Int) <= ((lenE (.v 7530)).den o).I) : AllL o sp1L := by
  simp only [spY, exEnt, leT, lenE, pk, List.foldr, SS, implies_true, hu.u142, hu.u174, dec_iff] at hent hle; obtain ⟨f1, f2, t1, t2, hlen⟩ := hent; have hin := sp_in (ttl := (o.v 7531).I) (fun n hn => op_in f1 f2 hn) (by omega) r (by omega)
  obtain ⟨i1, i2, i3, i4, i5⟩ := hin; simp only [sp1L, allL_cons, allL_nil, and_true]
  and_intros
  all_goals intro h
  all_goals simp only [SS, implies_true, hr, hu.u100, hu.u103, hu.u107, hu.u108, hu.u110, hu.u111, hu.u160, hu.u161, hu.u162, hu.u163, hu.u164, hu.u165, hu.u166, hu.u168, hu.u169, hu.u170, hu.u171, hu.u172, hu.u173, dec_iff, dec_no, Classical.not_not] at h ⊢
  rotate_right
  . exact ⟨by rw [ans_len]; omega, take_all (by rw [ans_len]; omega)⟩
  all_goals (repeat (have b := h.1; replace h := h.2))
  all_goals have hl : r < (o.v 7530).T.length := by omega
  all_goals obtain ⟨⟨k0, k1, k2⟩, p2, p3, p4, p5⟩ := op_in f1 f2 hl
  all_goals have hA := ans_row (ttl := (o.v 7531).I) hl
  all_goals have hS : spSt (o.v 7530) (o.v 7531).I (r + 1) = (spStep (o.v 7531).I (row (o.v 7530) r) (spSt (o.v 7530) (o.v 7531).I r)).1 := rfl
  all_goals generalize spSt (o.v 7530) (o.v 7531).I r = s at *
  all_goals generalize hq : spStep (o.v 7531).I (row (o.v 7530) r) s = z at *
  all_goals unfold spStep at hq
  all_goals first
    | have hb : (cc (row (o.v 7530) r) 7).B = true := by assumption
    | have hb : (cc (row (o.v 7530) r) 7).B = false := by assumption
  all_goals (repeat first
    | rw [if_pos (⟨by omega, hb⟩ : (_ \/ _ \/ _) /\ _ = true)] at hq
    | rw [if_neg (fun q => by have q1 := q.1; have q2 := q.2; first | omega | (rw [hb] at q2; cases q2))] at hq
    | rw [if_pos (by omega)] at hq
    | rw [if_neg (by omega)] at hq
    | rw [if_pos (dec_iff.2 (by assumption))] at hq
    | rw [if_neg (fun q => absurd (dec_iff.1 q) (by assumption))] at hq)
  all_goals subst hq
  all_goals simp only [hA, hS]
  all_goals repeat' refine And.intro ?_ ?_
  all_goals first
    | rfl | trivial | assumption | omega
    | exact ⟨k0, k1, k2⟩
    | exact List.Perm.refl _
    | exact okRows_nil
    | exact reps_ok p2 _ (Nat.le_refl _)
    | (rw [List.length_map]; done)
    | (rw [List.length_map]; exact List.Perm.refl _)
    | exact ok_ans
    | (have := @reps_len (cc (row (o.v 7530) r) 9) (cc (row (o.v 7530) r) 9).T.length; try simp only [List.length_map]
       omega)
theorem sp2_all (hu : OU o) {r : Nat} (hr : o.v 2145 = .i r) (hent : (spY.ent 0).Hold o) (hmf : (spY.mf 2).Hold o) (hle : (r : Int) <= ((lenE (.v 7530)).den o).I) : AllL o sp2L := by
  have hmf : Facts.Hold o [ltT (.il 0) (.v 2145), (.o2 .ieq (lenE (.uf 171 (spA (.v 2145)))) (.il 0), true)] := hmf; simp only [spA, ltT, lenE, pk, List.foldr, SS, implies_true, hr, hu.u171] at hmf; simp only [spY, exEnt, leT, lenE, pk, List.foldr, SS, implies_true, hu.u142, hu.u174, dec_iff] at hent hle; obtain ⟨f1, f2, t1, t2, hlen⟩ := hent; have hin := sp_in (ttl := (o.v 7531).I) (fun n hn => op_in f1 f2 hn) (by omega) r (by omega)
  obtain ⟨i1, i2, i3, i4, i5⟩ := hin; have hS0 : (spSt (o.v 7530) (o.v 7531).I r).S = [] := List.length_eq_zero_iff.1 (by omega)
  simp only [sp2L, allL_cons, allL_nil, and_true]
  and_intros
  all_goals intro h
  all_goals simp only [SS, implies_true, hr, hu.u100, hu.u103, hu.u107, hu.u108, hu.u110, hu.u111, hu.u160, hu.u161, hu.u162, hu.u163, hu.u164, hu.u165, hu.u166, hu.u168, hu.u169, hu.u170, hu.u171, hu.u172, hu.u173, dec_iff, dec_no, Classical.not_not] at h ⊢
  rotate_right
  . exact ⟨by rw [ans_len]; omega, take_all (by rw [ans_len]; omega)⟩
  all_goals (repeat (have b := h.1; replace h := h.2))
  all_goals have hl : r < (o.v 7530).T.length := by omega
  all_goals obtain ⟨⟨k0, k1, k2⟩, p2, p3, p4, p5⟩ := op_in f1 f2 hl
  all_goals have hA := ans_row (ttl := (o.v 7531).I) hl
  all_goals have hS : spSt (o.v 7530) (o.v 7531).I (r + 1) = (spStep (o.v 7531).I (row (o.v 7530) r) (spSt (o.v 7530) (o.v 7531).I r)).1 := rfl
  all_goals generalize spSt (o.v 7530) (o.v 7531).I r = s at *
  all_goals generalize hq : spStep (o.v 7531).I (row (o.v 7530) r) s = z at *
  all_goals unfold spStep at hq
  all_goals first
    | have hb : (cc (row (o.v 7530) r) 7).B = true := by assumption
    | have hb : (cc (row (o.v 7530) r) 7).B = false := by assumption
  all_goals (repeat first
    | rw [if_pos (⟨by omega, hb⟩ : (_ \/ _ \/ _) /\ _ = true)] at hq
    | rw [if_neg (fun q => by have q1 := q.1; have q2 := q.2; first | omega | (rw [hb] at q2; cases q2))] at hq
    | rw [if_pos (by omega)] at hq
    | rw [if_neg (by omega)] at hq
    | rw [if_pos (dec_iff.2 (by assumption))] at hq
    | rw [if_neg (fun q => absurd (dec_iff.1 q) (by assumption))] at hq)
  all_goals subst hq
  all_goals simp only [hA, hS, hS0]
  all_goals repeat' refine And.intro ?_ ?_
  all_goals first
    | rfl | trivial | assumption | omega
    | exact ⟨k0, k1, k2⟩
    | exact List.Perm.refl _
    | exact okRows_nil
    | exact reps_ok p2 _ (Nat.le_refl _)
    | (rw [List.length_map]; done)
    | (rw [List.length_map]; exact List.Perm.refl _)
    | exact ok_ans
    | (have := @reps_len (cc (row (o.v 7530) r) 9) (cc (row (o.v 7530) r) 9).T.length; try simp only [List.length_map]
       omega)
theorem sp0_all (hu : OU o) {r : Nat} (hr : o.v 2145 = .i r) (hent : (spY.ent 0).Hold o) (hmf : (spY.mf 0).Hold o) (hle : (r : Int) <= ((lenE (.v 7530)).den o).I) : AllL o sp0L := by
  have hmf : Facts.Hold o [(.o2 .ieq (.v 2145) (.il 0), true)] := hmf; simp only [SS, implies_true, hr] at hmf; have hr0 : r = 0 := by omega
  simp only [spY, exEnt, leT, lenE, pk, List.foldr, SS, implies_true, hu.u142, hu.u174, dec_iff] at hent hle; obtain ⟨f1, f2, t1, t2, hlen⟩ := hent; have hin := sp_in (ttl := (o.v 7531).I) (fun n hn => op_in f1 f2 hn) (by omega) r (by omega)
  obtain ⟨i1, i2, i3, i4, i5⟩ := hin; have hS0 : (spSt (o.v 7530) (o.v 7531).I r).S = [] := by rw [hr0]; rfl
  simp only [sp0L, allL_cons, allL_nil, and_true]
  and_intros
  all_goals intro h
  all_goals simp only [SS, implies_true, hr, hu.u100, hu.u103, hu.u107, hu.u108, hu.u110, hu.u111, hu.u160, hu.u161, hu.u162, hu.u163, hu.u164, hu.u165, hu.u166, hu.u168, hu.u169, hu.u170, hu.u171, hu.u172, hu.u173, dec_iff, dec_no, Classical.not_not] at h ⊢
  rotate_right
  . have : (spAnsT (o.v 7530) (o.v 7531).I).length = 0 := by rw [ans_len]; omega
    exact (List.length_eq_zero_iff.1 this).symm
  all_goals (repeat (have b := h.1; replace h := h.2))
  all_goals have hl : r < (o.v 7530).T.length := by omega
  all_goals obtain ⟨⟨k0, k1, k2⟩, p2, p3, p4, p5⟩ := op_in f1 f2 hl
  all_goals have hA := ans_row (ttl := (o.v 7531).I) hl
  all_goals have hS : spSt (o.v 7530) (o.v 7531).I (r + 1) = (spStep (o.v 7531).I (row (o.v 7530) r) (spSt (o.v 7530) (o.v 7531).I r)).1 := rfl
  all_goals generalize spSt (o.v 7530) (o.v 7531).I r = s at *
  all_goals generalize hq : spStep (o.v 7531).I (row (o.v 7530) r) s = z at *
  all_goals unfold spStep at hq
  all_goals first
    | have hb : (cc (row (o.v 7530) r) 7).B = true := by assumption
    | have hb : (cc (row (o.v 7530) r) 7).B = false := by assumption
  all_goals (repeat first
    | rw [if_pos (⟨by omega, hb⟩ : (_ \/ _ \/ _) /\ _ = true)] at hq
    | rw [if_neg (fun q => by have q1 := q.1; have q2 := q.2; first | omega | (rw [hb] at q2; cases q2))] at hq
    | rw [if_pos (by omega)] at hq
    | rw [if_neg (by omega)] at hq
    | rw [if_pos (dec_iff.2 (by assumption))] at hq
    | rw [if_neg (fun q => absurd (dec_iff.1 q) (by assumption))] at hq)
  all_goals subst hq
  all_goals conv at hA => lhs; rw [hr0]
  all_goals simp only [hA, hS, hS0]
  all_goals repeat' refine And.intro ?_ ?_
  all_goals first
    | rfl | trivial | assumption | omega
    | exact ⟨k0, k1, k2⟩
    | exact List.Perm.refl _
    | exact okRows_nil
    | exact reps_ok p2 _ (Nat.le_refl _)
    | (rw [List.length_map]; done)
    | (rw [List.length_map]; exact List.Perm.refl _)
    | exact ok_ans
    | (have := @reps_len (cc (row (o.v 7530) r) 9) (cc (row (o.v 7530) r) 9).T.length; try simp only [List.length_map]
       omega)
end
section
variable {o : Env}
def spL (m : Nat) : List (Facts × List Ob) := match m with | 0 => sp0L | 1 => sp1L | _ => sp2L
theorem spM {m : Nat} (h : (spY.ok0 m || spY.tgt m) = true) : m = 0 \/ m = 1 \/ m = 2 := by
  rcases Bool.or_eq_true_iff.1 h with h | h
  . exact .inl (m0_of h)
  . rcases Bool.or_eq_true_iff.1 h with h | h
    . exact .inr (.inl (m1_of h))
    . exact .inr (.inr (Nat.eq_of_beq_eq_true h))
theorem spY_0 : spY.obl Tryz.prog 0 = some sp0L := by kernel_rfl
theorem spY_1 : spY.obl Tryz.prog 1 = some sp1L := by kernel_rfl
theorem spY_2 : spY.obl Tryz.prog 2 = some sp2L := by kernel_rfl
theorem spY_c : CntM Tryz.prog spY (lenE (.v 7530)) spL := ⟨fun m h => by
    rcases spM h with rfl | rfl | rfl
    . exact spY_0
    . exact spY_1
    . exact spY_2, by kernel_rfl, fun m => by rcases m with _ | _ | _ <;> rfl, fun _ => rfl, by kernel_rfl, rfl, fun _ => rfl⟩
theorem spX_ok (hu : OU o) (A : Anchor) : ExtOk Tryz.prog o A (spX.x.toExt Tryz.prog) :=
  ctr_ok (c := spX) (by kernel_rfl) ⟨objKeyF_ok hu, objsWithF_ok hu, objsWithoutF_ok hu, objKeysF_ok hu, trivial⟩ ⟨alY_ok hu, rpY_ok hu, atY_ok hu, trivial⟩ A
theorem spY_ok (hu : OU o) : LpOk Tryz.prog o fSpecEx 4 spY.lpP :=
  spY_c.ok plain mixed (fun o _ _ => nn_len o) (fun e A he => spX_ok (hu.like he) A)
    (fun e i m he h hm hk hr hl => by
      rcases spM hk with rfl | rfl | rfl
      . exact sp0_all (hu.like he) hr h hm hl
      . exact sp1_all (hu.like he) hr h hm hl
      . exact sp2_all (hu.like he) hr h hm hl)
end
end Go.Proofs.YtdlppkhmmclipaaGreat.sxObj

