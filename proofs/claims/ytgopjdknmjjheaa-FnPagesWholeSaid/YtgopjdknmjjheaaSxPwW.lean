/-
  THE LAW FnPagesWhole: what a pager says of a list cut into pages, whole or with one that has expired.
-/
import Derived.Test.YtgopjdknmjjheaaSxPwA
import Derived.Test.YtgopjdknmjjheaaSxMLoopH
import Derived.Test.YtgopjdknmjjheaaSxPwQ
namespace Go.Proofs.Ytgopjdknmjjheaa.sxPages
open Go.Sx
def wP : E := .uf 50 (pk [.v 0, .v 32, .sl [57]])
def wA : E := pk [.bl false, .v 64, .sl [], .v 32, wP]
def guardsW : List E := [.o2 .lt (.il 2147483647) (.o1 .tlen (.v 0)), .uf 1 (pk [.v 0]), .o2 .lt (.il 2147483647) (.o1 .size (.v 64)), .o2 .lt (.il 60) (.o1 .tlen (.v 0)), .o2 .lt (.v 32) (.il 0), .o2 .lt (.il 100) (.v 32), .o2 .lt (.il 40) (.o1 .size (.v 64)), .o2 .lt (.v 96) (.il 0), .uf 54 (pk [.v 0])]
def goodW : Facts := okF guardsW
def kindW (a : E) (k : Nat) : Facts := ([1, 2, 3, 6].filter (fun j => Nat.blt j k)).map (fun j => (.o2 .ieq (.uf 24 a) (.il (Int.ofNat j)), false)) ++ (match k with | 7 => [] | k => [(.o2 .ieq (.uf 24 a) (.il (Int.ofNat k)), true)])
def wL : E := .o2 .tcat (.o2 .ttake wP (.v 96)) (.o2 .tcat (.o2 .cel (.il 0) (.o2 .cel (.sl []) (.o2 .cel (.sl []) (.o2 .cel (.il 8) (.il 0))))) (.o2 .cel (.v 0) (.o2 .cel (.sl []) (.o2 .cel (.sl [49, 50]) (.o2 .cel (.il 0) (.il 0))))))
def wB (b : Bool) : E := pk [.bl b, .v 64, .sl [], .v 32, wL]
def wFa : Facts := goodW ++ kindW wA 6
def wFb : Facts := goodW ++ kindW wA 7 ++ [(.o2 .ieq (.v 96) (.il 0), true)]
def wFc : Facts := goodW ++ kindW wA 7 ++ [(.o2 .ieq (.v 96) (.il 0), false), (.o2 .le (.o1 .tlen wP) (.v 96), true)]
def wFd : Facts := goodW ++ kindW wA 7 ++ [(.o2 .ieq (.v 96) (.il 0), false), (.o2 .le (.o1 .tlen wP) (.v 96), false), (.o2 .ieq (.o1 .tlen (.o2 .ttake wP (.v 96))) (.il 0), false)] ++ kindW (wB true) 3 ++ kindW (wB false) 2
end Go.Proofs.Ytgopjdknmjjheaa.sxPages

namespace Go.Proofs.Ytgopjdknmjjheaa.sxPages
open Go.Sx
set_option linter.unusedVariables false
set_option maxRecDepth 100000
abbrev qw0 : E := .uf 51 (.o2 .cel (.v 7080) (.o2 .cel (.v 7081) (.o2 .cel (.v 2017) (.il 0))))
abbrev qw1 : E := .o2 .mn (.o1 .tlen (.v 7080)) (.o2 .add qw0 (.v 7081))
abbrev qw2 : E := .o2 .ieq qw1 (.o1 .tlen (.v 7080))
abbrev qw3 : E := .o2 .lt qw1 (.o1 .tlen (.v 7080))
abbrev qw4 : Facts := [((.o2 .lt (.il 0) (.v 7081)), true)]
abbrev qw5 : Facts := ((qw3, true) : E × Bool) :: qw4
abbrev qw6 : Facts := ((qw2, true) : E × Bool) :: qw5
abbrev qw7 : E := .o2 .sub qw1 (.il 1)
abbrev qw8 : E := .o2 (.cell 0) (.v 7080) qw7
abbrev qw9 : E := .o2 .tdrop (.o2 .ttake (.v 7080) qw1) qw0
abbrev qw10 : E := .o2 .cat (.sl [98, 101, 104, 105, 110, 100, 32]) qw8
abbrev qw11 : E := .o2 .cel (.v 7082) (.o2 .cel (.il 0) (.il 0))
abbrev qw12 : E := .o2 .cel qw9 (.o2 .cel qw10 qw11)
abbrev qw13 : E := .uf 50 (.o2 .cel (.v 7080) (.o2 .cel (.v 7081) (.o2 .cel (.v 7082) (.il 0))))
abbrev qw14 : Facts := ((qw2, false) : E × Bool) :: qw5
abbrev qw15 : E := .o1 .tlen qw13
abbrev qw16 : E := .uf 51 (.o2 .cel (.v 7080) (.o2 .cel (.v 7081) (.o2 .cel (.o2 .add (.v 2017) (.il 1)) (.il 0))))
abbrev qw17 : E := .o2 (.cell 1) qw13 (.il 0)
abbrev qw18 : List Ob := [(.e (.o2 .seq (.v 7082) (.o2 (.cell 2) qw13 (.il 0)))), (.e (.o2 .ieq (.il 0) (.o2 (.cell 3) qw13 (.il 0))))]
abbrev qw19 : Facts := ((qw3, false) : E × Bool) :: qw4
abbrev qw20 : Facts := ((qw2, true) : E × Bool) :: qw19
abbrev qw21 : E := .o2 .cel (.sl []) qw11
abbrev qw22 : E := .o2 .cel qw9 qw21
abbrev qw23 : Facts := ((qw2, false) : E × Bool) :: qw19
abbrev qw24 : E := .o2 .lt (.o1 .tlen (.v 7080)) (.o1 .tlen (.v 7080))
abbrev qw25 : Facts := [((.o2 .lt (.il 0) (.v 7081)), false)]
abbrev qw26 : Facts := ((qw24, true) : E × Bool) :: qw25
abbrev qw27 : E := .o2 .sub (.o1 .tlen (.v 7080)) (.il 1)
abbrev qw28 : E := .o2 (.cell 0) (.v 7080) qw27
abbrev qw29 : E := .o2 .tdrop (.v 7080) qw0
abbrev qw30 : E := .o2 .cel qw29 (.o2 .cel (.o2 .cat (.sl [98, 101, 104, 105, 110, 100, 32]) qw28) qw11)
abbrev qw31 : Facts := ((qw24, false) : E × Bool) :: qw25
abbrev qw32 : E := .o2 .cel qw29 qw21
def pcYL0 : List (Facts × List Ob) :=
  [(qw6,
    [(.e (.o2 .le (.o2 .add (.il 7) (.o1 .size qw8)) (.il 9223372036854775807))), (.e (.o2 .lt qw7 (.o1 .tlen (.v 7080)))), (.e (.o2 .le (.il 0) qw7)), (.e (.o2 .le qw1 (.o1 .tlen (.v 7080)))), (.t qw12 qw13)]),
   (qw14,
    (((.e (.o2 .lt (.o2 .add (.v 2017) (.il 1)) qw15)) : Ob) :: ((.e (.o2 .lt qw16 (.o1 .tlen (.v 7080)))) : Ob) :: ((.e (.o2 .le (.o2 .add (.il 7) (.o1 .size qw8)) (.il 9223372036854775807))) : Ob) :: ((.e (.o2 .lt qw7 (.o1 .tlen (.v 7080)))) : Ob) :: ((.e (.o2 .le (.il 0) qw7)) : Ob) :: ((.e (.o2 .le qw1 (.o1 .tlen (.v 7080)))) : Ob) :: ((.e (.o2 .ieq qw1 qw16)) : Ob) :: ((.t qw9 (.o2 (.cell 0) qw13 (.il 0))) : Ob) :: ((.e (.o2 .seq qw10 qw17)) : Ob) :: qw18)),
   (qw20,
    [(.e (.o2 .le qw1 (.o1 .tlen (.v 7080)))), (.t qw22 qw13)]),
   (qw23,
    (((.e (.o2 .lt (.o2 .add (.v 2017) (.il 1)) qw15)) : Ob) :: ((.e (.o2 .lt qw16 (.o1 .tlen (.v 7080)))) : Ob) :: ((.e (.o2 .le qw1 (.o1 .tlen (.v 7080)))) : Ob) :: ((.e (.o2 .ieq qw1 qw16)) : Ob) :: ((.t qw9 (.o2 (.cell 0) qw13 (.il 0))) : Ob) :: ((.e (.o2 .seq (.sl []) qw17)) : Ob) :: qw18)),
   (qw26,
    [(.e (.o2 .le (.o2 .add (.il 7) (.o1 .size qw28)) (.il 9223372036854775807))), (.e (.o2 .lt qw27 (.o1 .tlen (.v 7080)))), (.e (.o2 .le (.o1 .tlen (.v 7080)) (.o1 .tlen (.v 7080)))), (.t qw30 qw13)]),
   (qw31,
    [(.t qw32 qw13)])]
abbrev qw33 : E := .o2 .ttake qw13 (.v 2017)
abbrev qw34 : E := .o2 (.cell 1) qw13 (.v 2017)
abbrev qw35 : List Ob := [(.e (.o2 .seq (.v 7082) (.o2 (.cell 2) qw13 (.v 2017)))), (.e (.o2 .ieq (.il 0) (.o2 (.cell 3) qw13 (.v 2017))))]
def pcYL1 : List (Facts × List Ob) :=
  [(qw6,
    [(.e (.o2 .le (.o2 .add (.il 7) (.o1 .size qw8)) (.il 9223372036854775807))), (.e (.o2 .lt qw7 (.o1 .tlen (.v 7080)))), (.e (.o2 .le qw1 (.o1 .tlen (.v 7080)))), (.e (.o2 .le qw0 qw1)), (.e (.o2 .le (.v 2017) qw15)), (.t (.o2 .tcat qw33 qw12) qw13)]),
   (qw14,
    (((.e (.o2 .lt (.o2 .add (.v 2017) (.il 1)) qw15)) : Ob) :: ((.e (.o2 .lt qw16 (.o1 .tlen (.v 7080)))) : Ob) :: ((.e (.o2 .le (.o2 .add (.il 7) (.o1 .size qw8)) (.il 9223372036854775807))) : Ob) :: ((.e (.o2 .lt qw7 (.o1 .tlen (.v 7080)))) : Ob) :: ((.e (.o2 .le qw1 (.o1 .tlen (.v 7080)))) : Ob) :: ((.e (.o2 .le qw0 qw1)) : Ob) :: ((.e (.o2 .ieq qw1 qw16)) : Ob) :: ((.t qw9 (.o2 (.cell 0) qw13 (.v 2017))) : Ob) :: ((.e (.o2 .seq qw10 qw34)) : Ob) :: qw35)),
   (qw20,
    [(.e (.o2 .le qw1 (.o1 .tlen (.v 7080)))), (.e (.o2 .le qw0 qw1)), (.e (.o2 .le (.v 2017) qw15)), (.t (.o2 .tcat qw33 qw22) qw13)]),
   (qw23,
    (((.e (.o2 .lt (.o2 .add (.v 2017) (.il 1)) qw15)) : Ob) :: ((.e (.o2 .lt qw16 (.o1 .tlen (.v 7080)))) : Ob) :: ((.e (.o2 .le qw1 (.o1 .tlen (.v 7080)))) : Ob) :: ((.e (.o2 .le qw0 qw1)) : Ob) :: ((.e (.o2 .ieq qw1 qw16)) : Ob) :: ((.t qw9 (.o2 (.cell 0) qw13 (.v 2017))) : Ob) :: ((.e (.o2 .seq (.sl []) qw34)) : Ob) :: qw35)),
   (qw26,
    [(.e (.o2 .le (.o2 .add (.il 7) (.o1 .size qw28)) (.il 9223372036854775807))), (.e (.o2 .lt qw27 (.o1 .tlen (.v 7080)))), (.e (.o2 .le (.o1 .tlen (.v 7080)) (.o1 .tlen (.v 7080)))), (.e (.o2 .le (.v 2017) qw15)), (.t (.o2 .tcat qw33 qw30) qw13)]),
   (qw31,
    [(.e (.o2 .le (.v 2017) qw15)), (.t (.o2 .tcat qw33 qw32) qw13)])]
abbrev qw36 : E := .o2 .seq (.o2 (.cell 0) (.v 7090) (.v 2018)) (.sl [])
abbrev qw37 : E := .o2 .lt (.v 2018) (.o1 .tlen (.v 7090))
abbrev qw38 : Facts := [(qw37, true)]
abbrev qw39 : E := .uf 54 (.o2 .cel (.v 7090) (.il 0))
abbrev qw40 : E := .o2 .lt (.il 30) (.o1 .size (.o2 (.cell 0) (.v 7090) (.v 2018)))
abbrev qw41 : Facts := ((qw36, false) : E × Bool) :: qw38
def nwYL0 : List (Facts × List Ob) :=
  [((((qw36, true) : E × Bool) :: qw38),
    [(.e qw39)]),
   ((((qw40, true) : E × Bool) :: qw41),
    [(.e qw39)]),
   ((((qw40, false) : E × Bool) :: qw41),
    [(.e (.o2 .lt (.v 2018) (.uf 55 (.o2 .cel (.v 7090) (.il 0)))))]),
   ([(qw37, false)],
    [(.e (.o1 .not qw39))])]
abbrev qw42 : E := .o2 .seq (.o2 (.cell 2) (.v 7095) (.v 2019)) (.sl [])
abbrev qw43 : E := .o2 .seq (.o2 (.cell 1) (.v 7095) (.v 2019)) (.o2 (.cell 1) (.v 7098) (.o2 .sub (.v 2019) (.il 1)))
abbrev qw44 : E := .o2 .ieq (.o2 (.cell 0) (.v 7095) (.v 2019)) (.v 7096)
abbrev qw45 : E := .o2 .lt (.v 2019) (.o1 .tlen (.v 7095))
abbrev qw46 : Facts := [(qw45, true)]
abbrev qw47 : Facts := ((qw44, true) : E × Bool) :: qw46
abbrev qw48 : Facts := (((.o2 .lt (.il 0) (.v 2019)), true) : E × Bool) :: qw47
abbrev qw49 : Facts := ((qw43, true) : E × Bool) :: qw48
abbrev qw50 : E := .o2 .cel (.v 7095) (.o2 .cel (.v 7096) (.o2 .cel (.v 7097) (.o2 .cel (.v 7098) (.il 0))))
abbrev qw51 : List Ob := [(.e (.o2 .lt (.o2 .sub (.v 2019) (.il 1)) (.o1 .tlen (.v 7098))))]
abbrev qw52 : List Ob := ((.e (.uf 56 qw50)) : Ob) :: qw51
abbrev qw53 : E := .o2 .seq (.o2 (.cell 2) (.v 7095) (.v 2019)) (.v 7097)
abbrev qw54 : E := .o2 .seq (.o2 (.cell 1) (.v 7095) (.v 2019)) (.sl [])
abbrev qw55 : Facts := (((.o2 .lt (.il 0) (.v 2019)), false) : E × Bool) :: qw47
abbrev qw56 : Facts := ((qw54, true) : E × Bool) :: qw55
abbrev qw57 : List Ob := [(.e (.uf 56 qw50))]
def clYL0 : List (Facts × List Ob) :=
  [((((qw42, true) : E × Bool) :: qw49),
    (((.e (.o2 .lt (.v 2019) (.uf 57 qw50))) : Ob) :: qw51)),
   ((((qw42, false) : E × Bool) :: qw49),
    qw52),
   ((((qw43, false) : E × Bool) :: qw48),
    qw52),
   ((((qw53, true) : E × Bool) :: qw56),
    [(.e (.o2 .lt (.v 2019) (.uf 57 qw50)))]),
   ((((qw53, false) : E × Bool) :: qw56),
    qw57),
   ((((qw54, false) : E × Bool) :: qw55),
    qw57),
   ((((qw44, false) : E × Bool) :: qw46),
    qw57),
   ([(qw45, false)],
    [(.e (.o1 .not (.uf 56 qw50)))])]
abbrev qw58 : E := .o2 .cel (.v 7111) (.o2 .cel (.v 7112) (.o2 .cel (.v 7113) (.o2 .cel (.v 7110) (.o2 .cel (.v 7115) (.il 0)))))
abbrev qw59 : E := .o2 .ieq (.uf 24 qw58) (.il 1)
abbrev qw60 : E := .o2 .ieq (.uf 24 qw58) (.il 2)
abbrev qw61 : Facts := [(qw59, false)]
abbrev qw62 : E := .o2 .ieq (.uf 24 qw58) (.il 3)
abbrev qw63 : Facts := ((qw60, false) : E × Bool) :: qw61
abbrev qw64 : E := .o2 .add (.uf 20 qw58) (.il 1)
abbrev qw65 : E := .uf 10 (.o2 .cel (.o2 (.cell 0) (.v 7115) qw64) (.il 0))
abbrev qw66 : E := .o2 .ieq (.uf 24 qw58) (.il 6)
abbrev qw67 : Facts := ((qw62, false) : E × Bool) :: qw63
abbrev qw68 : E := .uf 10 (.o2 .cel (.o2 (.cell 0) (.v 7115) (.il 0)) (.il 0))
abbrev qw69 : E := .uf 22 (.o2 .cel (.v 7115) (.o2 .cel qw64 (.il 0)))
def pgFL : List (Facts × List Ob) :=
  [([(qw59, true)],
    []),
   ((((qw60, true) : E × Bool) :: qw61),
    []),
   ((((qw62, true) : E × Bool) :: qw63),
    [(.e (.uf 13 (.o2 .cel qw65 (.il 0)))), (.e (.o2 .le (.o1 .tlen qw65) (.il 1000000)))]),
   ((((qw66, true) : E × Bool) :: qw67),
    [(.e (.uf 13 (.o2 .cel qw68 (.il 0)))), (.e (.o2 .le (.o1 .tlen qw68) (.il 1000000)))]),
   ((((qw66, false) : E × Bool) :: qw67),
    [(.e (.uf 13 (.o2 .cel qw69 (.il 0)))), (.e (.o2 .le (.o1 .tlen qw69) (.il 1000000)))])]
abbrev qw70 : E := .uf 50 (.o2 .cel (.v 0) (.o2 .cel (.v 32) (.o2 .cel (.sl [57]) (.il 0))))
abbrev qw71 : E := .uf 12 (.o2 .cel (.uf 10 (.o2 .cel (.o2 (.cell 0) qw70 (.il 0)) (.il 0))) (.il 0))
abbrev qw72 : E := .uf 40 (.o2 .cel qw71 (.o2 .cel (.v 0) (.il 0)))
abbrev qw73 : E := .o2 .ieq (.o1 .tlen qw71) (.o1 .tlen (.v 0))
abbrev qw74 : E := .o2 .lt (.il 2147483647) (.o1 .tlen (.v 0))
abbrev qw75 : E := .o2 .lt (.il 2147483647) (.o1 .size (.v 64))
abbrev qw76 : E := .o2 .lt (.il 60) (.o1 .tlen (.v 0))
abbrev qw77 : E := .o2 .lt (.il 40) (.o1 .size (.v 64))
abbrev qw78 : E := .o2 .cel qw70 (.il 0)
abbrev qw79 : E := .o2 .cel (.bl false) (.o2 .cel (.v 64) (.o2 .cel (.sl []) (.o2 .cel (.v 32) qw78)))
abbrev qw80 : E := .o2 .ieq (.uf 24 qw79) (.il 6)
abbrev qw81 : Facts := [((.o2 .le (.o1 .tlen (.v 0)) (.il 9223372036854775807)), true), ((.o2 .le (.il (-9223372036854775808)) (.v 32)), true), ((.o2 .le (.v 32) (.il 9223372036854775807)), true), ((.o2 .le (.il (-9223372036854775808)) (.v 96)), true), ((.o2 .le (.v 96) (.il 9223372036854775807)), true)]
abbrev qw82 : Facts := ((qw74, false) : E × Bool) :: (((.uf 1 (.o2 .cel (.v 0) (.il 0))), false) : E × Bool) :: ((qw75, false) : E × Bool) :: ((qw76, false) : E × Bool) :: (((.o2 .lt (.v 32) (.il 0)), false) : E × Bool) :: (((.o2 .lt (.il 100) (.v 32)), false) : E × Bool) :: ((qw77, false) : E × Bool) :: (((.o2 .lt (.v 96) (.il 0)), false) : E × Bool) :: (((.uf 54 (.o2 .cel (.v 0) (.il 0))), false) : E × Bool) :: (((.o2 .ieq (.uf 24 qw79) (.il 1)), false) : E × Bool) :: (((.o2 .ieq (.uf 24 qw79) (.il 2)), false) : E × Bool) :: (((.o2 .ieq (.uf 24 qw79) (.il 3)), false) : E × Bool) :: ((qw80, true) : E × Bool) :: qw81
abbrev qw83 : Facts := ((qw73, true) : E × Bool) :: qw82
abbrev qw84 : E := .o1 .tlen qw70
abbrev qw85 : List Ob := [(.e (.o2 .ieq (.il 0) (.uf 51 (.o2 .cel (.v 0) (.o2 .cel (.v 32) (.o2 .cel (.il 0) (.il 0)))))))]
abbrev qw86 : List Ob := ((.e (.o1 .not (.uf 7 qw78))) : Ob) :: ((.e (.o2 .le qw84 (.il 66))) : Ob) :: qw85
abbrev qw87 : List Ob := ((.e (.bl false)) : Ob) :: qw86
abbrev qw88 : E := .o2 .lt (.il 1) qw84
abbrev qw89 : E := .o1 .tlen (.uf 25 qw79)
abbrev qw90 : E := .o2 .ieq qw89 qw84
abbrev qw91 : E := .o2 .seq (.o2 (.cell 2) qw70 (.il 0)) (.sl [57])
abbrev qw92 : Facts := ((qw72, false) : E × Bool) :: qw83
abbrev qw93 : Facts := ((qw91, true) : E × Bool) :: qw92
abbrev qw94 : Facts := ((qw90, true) : E × Bool) :: qw93
abbrev qw95 : E := .uf 56 (.o2 .cel (.uf 25 qw79) (.o2 .cel (.v 32) (.o2 .cel (.v 64) qw78)))
abbrev qw96 : Facts := ((qw88, false) : E × Bool) :: qw94
abbrev qw97 : Facts := ((qw95, false) : E × Bool) :: qw96
abbrev qw98 : List Ob := ((.e (.bl true)) : Ob) :: qw86
def whLa : List (Facts × List Ob) :=
  [((((qw72, true) : E × Bool) :: qw83),
    qw87),
   ((((qw88, true) : E × Bool) :: qw94),
    qw87),
   ((((qw95, true) : E × Bool) :: qw96),
    qw87),
   (((((.o2 .ieq (.v 96) (.il 0)), true) : E × Bool) :: qw97),
    qw98),
   (((((.o2 .ieq (.v 96) (.il 0)), false) : E × Bool) :: qw97),
    qw98),
   ((((qw90, false) : E × Bool) :: qw93),
    qw87),
   ((((qw91, false) : E × Bool) :: qw92),
    qw87),
   ((((qw73, false) : E × Bool) :: qw82),
    qw87)]
abbrev qw99 : E := .uf 12 (.o2 .cel (.uf 22 (.o2 .cel qw70 (.o2 .cel (.o2 .add (.uf 20 qw79) (.il 1)) (.il 0)))) (.il 0))
abbrev qw100 : E := .uf 40 (.o2 .cel qw99 (.o2 .cel (.v 0) (.il 0)))
abbrev qw101 : E := .o2 .ieq (.o1 .tlen qw99) (.o1 .tlen (.v 0))
abbrev qw102 : Facts := ((qw74, false) : E × Bool) :: (((.uf 1 (.o2 .cel (.v 0) (.il 0))), false) : E × Bool) :: ((qw75, false) : E × Bool) :: ((qw76, false) : E × Bool) :: (((.o2 .lt (.v 32) (.il 0)), false) : E × Bool) :: (((.o2 .lt (.il 100) (.v 32)), false) : E × Bool) :: ((qw77, false) : E × Bool) :: (((.o2 .lt (.v 96) (.il 0)), false) : E × Bool) :: (((.uf 54 (.o2 .cel (.v 0) (.il 0))), false) : E × Bool) :: (((.o2 .ieq (.uf 24 qw79) (.il 1)), false) : E × Bool) :: (((.o2 .ieq (.uf 24 qw79) (.il 2)), false) : E × Bool) :: (((.o2 .ieq (.uf 24 qw79) (.il 3)), false) : E × Bool) :: ((qw80, false) : E × Bool) :: (((.o2 .ieq (.v 96) (.il 0)), true) : E × Bool) :: qw81
abbrev qw103 : Facts := ((qw101, true) : E × Bool) :: qw102
abbrev qw104 : Facts := ((qw100, false) : E × Bool) :: qw103
abbrev qw105 : Facts := ((qw91, true) : E × Bool) :: qw104
abbrev qw106 : Facts := ((qw90, true) : E × Bool) :: qw105
abbrev qw107 : Facts := ((qw88, true) : E × Bool) :: qw106
abbrev qw108 : List Ob := ((.e (.o2 .le qw89 (.il 9223372036854775807))) : Ob) :: qw86
abbrev qw109 : List Ob := ((.e (.bl false)) : Ob) :: qw108
def whLb : List (Facts × List Ob) :=
  [((((qw100, true) : E × Bool) :: qw103),
    qw87),
   ((((qw95, true) : E × Bool) :: qw107),
    qw109),
   ((((qw95, false) : E × Bool) :: qw107),
    (((.e (.bl true)) : Ob) :: qw108)),
   ((((qw88, false) : E × Bool) :: qw106),
    qw87),
   ((((qw90, false) : E × Bool) :: qw105),
    qw87),
   ((((qw91, false) : E × Bool) :: qw104),
    qw87),
   ((((qw101, false) : E × Bool) :: qw102),
    qw87)]
abbrev qw110 : E := .o2 .le qw84 (.v 96)
abbrev qw111 : Facts := ((qw74, false) : E × Bool) :: (((.uf 1 (.o2 .cel (.v 0) (.il 0))), false) : E × Bool) :: ((qw75, false) : E × Bool) :: ((qw76, false) : E × Bool) :: (((.o2 .lt (.v 32) (.il 0)), false) : E × Bool) :: (((.o2 .lt (.il 100) (.v 32)), false) : E × Bool) :: ((qw77, false) : E × Bool) :: (((.o2 .lt (.v 96) (.il 0)), false) : E × Bool) :: (((.uf 54 (.o2 .cel (.v 0) (.il 0))), false) : E × Bool) :: (((.o2 .ieq (.uf 24 qw79) (.il 1)), false) : E × Bool) :: (((.o2 .ieq (.uf 24 qw79) (.il 2)), false) : E × Bool) :: (((.o2 .ieq (.uf 24 qw79) (.il 3)), false) : E × Bool) :: ((qw80, false) : E × Bool) :: (((.o2 .ieq (.v 96) (.il 0)), false) : E × Bool) :: ((qw110, true) : E × Bool) :: qw81
abbrev qw112 : Facts := ((qw101, true) : E × Bool) :: qw111
abbrev qw113 : Facts := ((qw100, false) : E × Bool) :: qw112
abbrev qw114 : Facts := ((qw91, true) : E × Bool) :: qw113
abbrev qw115 : Facts := ((qw90, true) : E × Bool) :: qw114
abbrev qw116 : Facts := ((qw88, true) : E × Bool) :: qw115
def whLc : List (Facts × List Ob) :=
  [((((qw100, true) : E × Bool) :: qw112),
    qw87),
   ((((qw95, true) : E × Bool) :: qw116),
    qw87),
   ((((qw95, false) : E × Bool) :: qw116),
    qw98),
   ((((qw88, false) : E × Bool) :: qw115),
    qw87),
   ((((qw90, false) : E × Bool) :: qw114),
    qw87),
   ((((qw91, false) : E × Bool) :: qw113),
    qw87),
   ((((qw101, false) : E × Bool) :: qw111),
    qw87)]
abbrev qw117 : E := .o2 .ttake qw70 (.v 96)
abbrev qw118 : E := .o1 .tlen qw117
abbrev qw119 : E := .o2 .tcat qw117 (.o2 .tcat (.o2 .cel (.il 0) (.o2 .cel (.sl []) (.o2 .cel (.sl []) (.o2 .cel (.il 8) (.il 0))))) (.o2 .cel (.v 0) (.o2 .cel (.sl []) (.o2 .cel (.sl [49, 50]) (.o2 .cel (.il 0) (.il 0))))))
abbrev qw120 : E := .o2 .cel qw119 (.il 0)
abbrev qw121 : E := .o2 .cel (.v 64) (.o2 .cel (.sl []) (.o2 .cel (.v 32) qw120))
abbrev qw122 : E := .o2 .cel (.bl true) qw121
abbrev qw123 : E := .uf 24 (.o2 .cel (.bl false) qw121)
abbrev qw124 : Facts := ((qw74, false) : E × Bool) :: (((.uf 1 (.o2 .cel (.v 0) (.il 0))), false) : E × Bool) :: ((qw75, false) : E × Bool) :: ((qw76, false) : E × Bool) :: (((.o2 .lt (.v 32) (.il 0)), false) : E × Bool) :: (((.o2 .lt (.il 100) (.v 32)), false) : E × Bool) :: ((qw77, false) : E × Bool) :: (((.o2 .lt (.v 96) (.il 0)), false) : E × Bool) :: (((.uf 54 (.o2 .cel (.v 0) (.il 0))), false) : E × Bool) :: (((.o2 .ieq (.uf 24 qw79) (.il 1)), false) : E × Bool) :: (((.o2 .ieq (.uf 24 qw79) (.il 2)), false) : E × Bool) :: (((.o2 .ieq (.uf 24 qw79) (.il 3)), false) : E × Bool) :: ((qw80, false) : E × Bool) :: (((.o2 .ieq (.v 96) (.il 0)), false) : E × Bool) :: ((qw110, false) : E × Bool) :: (((.o2 .ieq qw118 (.il 0)), false) : E × Bool) :: (((.o2 .ieq (.uf 24 qw122) (.il 1)), false) : E × Bool) :: (((.o2 .ieq (.uf 24 qw122) (.il 2)), false) : E × Bool) :: (((.o2 .ieq (.uf 24 qw122) (.il 3)), true) : E × Bool) :: (((.o2 .ieq qw123 (.il 1)), false) : E × Bool) :: (((.o2 .ieq qw123 (.il 2)), true) : E × Bool) :: qw81
abbrev qw125 : Facts := ((qw101, true) : E × Bool) :: qw124
abbrev qw126 : Facts := ((qw100, false) : E × Bool) :: qw125
abbrev qw127 : Facts := ((qw91, true) : E × Bool) :: qw126
abbrev qw128 : Facts := ((qw90, true) : E × Bool) :: qw127
abbrev qw129 : E := .o2 .add (.uf 20 qw122) (.il 1)
abbrev qw130 : E := .uf 12 (.o2 .cel (.uf 10 (.o2 .cel (.o2 (.cell 0) qw119 qw129) (.il 0))) (.il 0))
abbrev qw131 : E := .uf 40 (.o2 .cel qw130 (.o2 .cel (.v 0) (.il 0)))
abbrev qw132 : E := .o2 .ieq (.o1 .tlen qw130) (.o1 .tlen (.v 0))
abbrev qw133 : Facts := ((qw95, false) : E × Bool) :: qw128
abbrev qw134 : Facts := ((qw132, true) : E × Bool) :: qw133
abbrev qw135 : List Ob := ((.e (.o1 .not (.uf 7 qw120))) : Ob) :: ((.e (.o2 .le (.o2 .add qw118 (.il 2)) (.il 66))) : Ob) :: ((.e (.o2 .le qw118 (.il 2147483648))) : Ob) :: ((.e (.o2 .le qw118 (.il 2147483648))) : Ob) :: ((.e (.o2 .le (.v 96) qw84)) : Ob) :: qw108
abbrev qw136 : List Ob := ((.e (.bl false)) : Ob) :: qw135
abbrev qw137 : E := .o2 .seq (.o2 (.cell 3) (.uf 25 qw122) (.o2 .add (.v 96) (.il 1))) (.sl [])
abbrev qw138 : E := .o2 .seq (.o2 (.cell 2) (.uf 25 qw122) (.o2 .add (.v 96) (.il 1))) (.v 64)
abbrev qw139 : E := .o2 .seq (.o2 (.cell 1) (.uf 25 qw122) (.o2 .add (.v 96) (.il 1))) (.sl [])
abbrev qw140 : E := .o2 .ieq (.o2 (.cell 0) (.uf 25 qw122) (.o2 .add (.v 96) (.il 1))) (.il 0)
abbrev qw141 : E := .o1 .tlen (.uf 25 qw122)
abbrev qw142 : E := .o2 .ieq qw141 (.o2 .add (.v 96) (.il 2))
abbrev qw143 : E := .o2 .seq (.o2 (.cell 2) qw119 qw129) (.sl [49, 50])
abbrev qw144 : Facts := ((qw131, false) : E × Bool) :: qw134
abbrev qw145 : Facts := ((qw143, true) : E × Bool) :: qw144
abbrev qw146 : Facts := ((qw142, true) : E × Bool) :: qw145
abbrev qw147 : Facts := ((qw140, true) : E × Bool) :: qw146
abbrev qw148 : Facts := ((qw139, true) : E × Bool) :: qw147
abbrev qw149 : Facts := ((qw138, true) : E × Bool) :: qw148
abbrev qw150 : List Ob := ((.e (.o2 .le (.o2 .add (.v 96) (.il 2)) (.il 9223372036854775807))) : Ob) :: qw135
abbrev qw151 : List Ob := ((.e (.o2 .lt (.o2 .add (.v 96) (.il 1)) qw141)) : Ob) :: ((.e (.o2 .le (.o2 .add (.v 96) (.il 1)) (.il 9223372036854775807))) : Ob) :: qw150
abbrev qw152 : List Ob := ((.e (.bl false)) : Ob) :: qw151
def whLd : List (Facts × List Ob) :=
  [((((qw100, true) : E × Bool) :: qw125),
    qw87),
   ((((qw95, true) : E × Bool) :: qw128),
    qw109),
   ((((qw131, true) : E × Bool) :: qw134),
    qw136),
   ((((qw137, true) : E × Bool) :: qw149),
    (((.e (.bl true)) : Ob) :: ((.e (.o1 .not (.uf 7 qw120))) : Ob) :: ((.e (.o2 .le (.o2 .add qw118 (.il 2)) (.il 66))) : Ob) :: qw151)),
   ((((qw137, false) : E × Bool) :: qw149),
    qw152),
   ((((qw138, false) : E × Bool) :: qw148),
    qw152),
   ((((qw139, false) : E × Bool) :: qw147),
    qw152),
   ((((qw140, false) : E × Bool) :: qw146),
    qw152),
   ((((qw142, false) : E × Bool) :: qw145),
    (((.e (.bl false)) : Ob) :: qw150)),
   ((((qw143, false) : E × Bool) :: qw144),
    qw136),
   ((((qw132, false) : E × Bool) :: qw133),
    qw136),
   ((((qw90, false) : E × Bool) :: qw127),
    qw87),
   ((((qw91, false) : E × Bool) :: qw126),
    qw87),
   ((((qw101, false) : E × Bool) :: qw124),
    qw87)]
def whG0 : List (Facts × List Ob) :=
  [((((qw74, true) : E × Bool) :: qw81),
    [(.e (.bl true))])]
def whG1 : List (Facts × List Ob) :=
  [((((qw74, false) : E × Bool) :: (((.uf 1 (.o2 .cel (.v 0) (.il 0))), true) : E × Bool) :: qw81),
    [(.e (.bl true))])]
def whG2 : List (Facts × List Ob) :=
  [((((qw74, false) : E × Bool) :: (((.uf 1 (.o2 .cel (.v 0) (.il 0))), false) : E × Bool) :: ((qw75, true) : E × Bool) :: qw81),
    [(.e (.bl true))])]
def whG3 : List (Facts × List Ob) :=
  [((((qw74, false) : E × Bool) :: (((.uf 1 (.o2 .cel (.v 0) (.il 0))), false) : E × Bool) :: ((qw75, false) : E × Bool) :: ((qw76, true) : E × Bool) :: qw81),
    [(.e (.bl true))])]
def whG4 : List (Facts × List Ob) :=
  [((((qw74, false) : E × Bool) :: (((.uf 1 (.o2 .cel (.v 0) (.il 0))), false) : E × Bool) :: ((qw75, false) : E × Bool) :: ((qw76, false) : E × Bool) :: (((.o2 .lt (.v 32) (.il 0)), true) : E × Bool) :: qw81),
    [(.e (.bl true))])]
def whG5 : List (Facts × List Ob) :=
  [((((qw74, false) : E × Bool) :: (((.uf 1 (.o2 .cel (.v 0) (.il 0))), false) : E × Bool) :: ((qw75, false) : E × Bool) :: ((qw76, false) : E × Bool) :: (((.o2 .lt (.v 32) (.il 0)), false) : E × Bool) :: (((.o2 .lt (.il 100) (.v 32)), true) : E × Bool) :: qw81),
    [(.e (.bl true))])]
def whG6 : List (Facts × List Ob) :=
  [((((qw74, false) : E × Bool) :: (((.uf 1 (.o2 .cel (.v 0) (.il 0))), false) : E × Bool) :: ((qw75, false) : E × Bool) :: ((qw76, false) : E × Bool) :: (((.o2 .lt (.v 32) (.il 0)), false) : E × Bool) :: (((.o2 .lt (.il 100) (.v 32)), false) : E × Bool) :: ((qw77, true) : E × Bool) :: qw81),
    [(.e (.bl true))])]
def whG7 : List (Facts × List Ob) :=
  [((((qw74, false) : E × Bool) :: (((.uf 1 (.o2 .cel (.v 0) (.il 0))), false) : E × Bool) :: ((qw75, false) : E × Bool) :: ((qw76, false) : E × Bool) :: (((.o2 .lt (.v 32) (.il 0)), false) : E × Bool) :: (((.o2 .lt (.il 100) (.v 32)), false) : E × Bool) :: ((qw77, false) : E × Bool) :: (((.o2 .lt (.v 96) (.il 0)), true) : E × Bool) :: qw81),
    [(.e (.bl true))])]
def whG8 : List (Facts × List Ob) :=
  [((((qw74, false) : E × Bool) :: (((.uf 1 (.o2 .cel (.v 0) (.il 0))), false) : E × Bool) :: ((qw75, false) : E × Bool) :: ((qw76, false) : E × Bool) :: (((.o2 .lt (.v 32) (.il 0)), false) : E × Bool) :: (((.o2 .lt (.il 100) (.v 32)), false) : E × Bool) :: ((qw77, false) : E × Bool) :: (((.o2 .lt (.v 96) (.il 0)), false) : E × Bool) :: (((.uf 54 (.o2 .cel (.v 0) (.il 0))), true) : E × Bool) :: qw81),
    (((.e (.bl true)) : Ob) :: qw85))]
end Go.Proofs.Ytgopjdknmjjheaa.sxPages

namespace Go.Proofs.Ytgopjdknmjjheaa.sxPages
open Go.Sx Go.RowKit
set_option linter.unusedVariables false
set_option maxRecDepth 100000
def ksW : List PK := [.dsl nmK, .int .i64, .str, .int .i64]
theorem pgF_obl : pgF.obl Try.prog = some pgFL := by kernel_rfl
theorem wh_a : lawOblF Try.prog (c6.xf litF) 5 ksW 80 wFa = some whLa := by kernel_rfl
theorem wh_b : lawOblF Try.prog (c6.xf litF) 5 ksW 80 wFb = some whLb := by kernel_rfl
theorem wh_c : lawOblF Try.prog (c6.xf litF) 5 ksW 80 wFc = some whLc := by kernel_rfl
theorem wh_d : lawOblF Try.prog (c6.xf litF) 5 ksW 80 wFd = some whLd := by kernel_rfl
theorem wh_g0 : lawOblF Try.prog (c6.xf litF) 5 ksW 80 (badF guardsW 0) = some whG0 := by kernel_rfl
theorem wh_g1 : lawOblF Try.prog (c6.xf litF) 5 ksW 80 (badF guardsW 1) = some whG1 := by kernel_rfl
theorem wh_g2 : lawOblF Try.prog (c6.xf litF) 5 ksW 80 (badF guardsW 2) = some whG2 := by kernel_rfl
theorem wh_g3 : lawOblF Try.prog (c6.xf litF) 5 ksW 80 (badF guardsW 3) = some whG3 := by kernel_rfl
theorem wh_g4 : lawOblF Try.prog (c6.xf litF) 5 ksW 80 (badF guardsW 4) = some whG4 := by kernel_rfl
theorem wh_g5 : lawOblF Try.prog (c6.xf litF) 5 ksW 80 (badF guardsW 5) = some whG5 := by kernel_rfl
theorem wh_g6 : lawOblF Try.prog (c6.xf litF) 5 ksW 80 (badF guardsW 6) = some whG6 := by kernel_rfl
theorem wh_g7 : lawOblF Try.prog (c6.xf litF) 5 ksW 80 (badF guardsW 7) = some whG7 := by kernel_rfl
theorem wh_g8 : lawOblF Try.prog (c6.xf litF) 5 ksW 80 (badF guardsW 8) = some whG8 := by kernel_rfl
end Go.Proofs.Ytgopjdknmjjheaa.sxPages

namespace Go.Proofs.Ytgopjdknmjjheaa.sxPages
open Go.Sx Go.RowKit
set_option linter.unusedVariables false
set_option linter.unusedSimpArgs false
set_option maxRecDepth 100000

theorem kind_1 {full : Bool} {pg : Dv} (h7 : anyB (B7 pg) pg.T.length = false) (h : kindN full pg = 1) : errF full pg = 98 := by
  have g0 := (good_pg h7 (endN pg)).2
  have g1 := (good_pg h7 (endN pg + 1)).2
  unfold kindN at h
  unfold errF
  grind
theorem kind_2 {full : Bool} {pg : Dv} (h7 : anyB (B7 pg) pg.T.length = false) (h : kindN full pg = 2) : errF full pg = 8 := by
  have g0 := (good_pg h7 (endN pg)).2
  have g1 := (good_pg h7 (endN pg + 1)).2
  unfold kindN at h
  unfold errF
  grind
theorem kind_3 {full : Bool} {pg : Dv} (h : kindN full pg = 3) : 0 < endN pg ∧ namesF full pg = (nmsAt pg (endN pg + 1)).T ∧ rvF full pg = rvAt pg (endN pg + 1) := by
  refine ⟨?_, by unfold namesF; rw [if_pos h], by unfold rvF; rw [if_pos h]⟩
  unfold kindN again at h
  grind
theorem kind_6 {full : Bool} {pg : Dv} (h : kindN full pg = 6) : endN pg = 0 ∧ namesF full pg = nmsTo pg 1 ∧ rvF full pg = rvAt pg 0 := by
  have h0 : endN pg = 0 := by unfold kindN at h; grind
  have h3 : kindN full pg ≠ 3 := by rw [h]; decide
  exact ⟨h0, by unfold namesF; rw [if_neg h3, h0], by unfold rvF; rw [if_neg h3]⟩
theorem kind_7 {full : Bool} {pg : Dv} (h1 : kindN full pg ≠ 1) (h2 : kindN full pg ≠ 2) (h3 : kindN full pg ≠ 3) (h6 : kindN full pg ≠ 6) : 0 < endN pg ∧ namesF full pg = nmsTo pg (endN pg + 1) ∧ rvF full pg = rvAt pg 0 := by
  have h0 : 0 < endN pg := by unfold kindN at h1 h2 h3 h6; grind
  exact ⟨h0, by unfold namesF; rw [if_neg h3], by unfold rvF; rw [if_neg h3]⟩
def fst1 (l : List (List Dv)) : List (List Dv) := l.map fun r => [cc r 0]
theorem names_itms {d : Dv} : (itms d).map nameOf = fst1 d.T := by
  unfold itms fst1
  rw [List.map_map]; rfl
theorem names_to {pg : Dv} : ∀ r, (itmsTo pg r).map nameOf = fst1 (nmsTo pg r)
  | 0 => rfl
  | r + 1 => by
    rw [itmsTo_succ, nmsTo_succ, List.map_append, names_to r, names_itms]
    unfold fst1
    rw [List.map_append]
theorem fst1_len {l : List (List Dv)} : (fst1 l).length = l.length := by unfold fst1; simp
theorem len_to {pg : Dv} (r : Nat) : (itmsTo pg r).length = (nmsTo pg r).length := by
  have := congrArg List.length (@names_to pg r)
  rw [List.length_map, fst1_len] at this
  exact this
theorem tx_same {l : List (List Dv)} {n : Nat} (hn : n = l.length) : anyB (Btx (.t (fst1 l)) (.t l)) n = false := by
  subst hn
  refine anyB_of fun i hi => ?_
  unfold Btx
  have e : cc (row (.t (fst1 l)) i) 0 = cc (row (.t l) i) 0 := by
    show cc (((fst1 l)[i]?).getD []) 0 = cc ((l[i]?).getD []) 0
    unfold fst1
    rw [List.getElem?_map, List.getElem?_eq_getElem hi]; rfl
  rw [e]; simp
theorem ok_itms {d : Dv} : okIt (itms d) = true := by
  unfold okIt itms
  rw [List.all_map]
  exact List.all_eq_true.2 fun r _ => rfl
theorem ok_to {pg : Dv} : ∀ r, okIt (itmsTo pg r) = true
  | 0 => rfl
  | r + 1 => by
    rw [itmsTo_succ]
    unfold okIt at *
    rw [List.all_append, Bool.and_eq_true]
    exact ⟨ok_to r, ok_itms⟩
theorem nmsTo_1 {pg : Dv} : nmsTo pg 1 = (nmsAt pg 0).T := by rw [nmsTo_succ]; rfl
theorem callsF_len {full : Bool} {lim rv mt pg : Dv} : (callsF full lim rv mt pg).length ≤ endN pg + 2 := by
  unfold callsF
  rw [List.length_append, calls_len]
  split <;> simp
end Go.Proofs.Ytgopjdknmjjheaa.sxPages

namespace Go.Proofs.Ytgopjdknmjjheaa.sxPages
open Go.Sx Go.RowKit
set_option linter.unusedVariables false
set_option linter.unusedSimpArgs false
set_option maxRecDepth 100000

/-! ### where pages end -/
def mnI (x y : Int) : Int := if x < y then x else y

section
variable {nm : Dv} {sz : Int} {rv : Dv}
theorem pos_0 : posN nm sz 0 = 0 := rfl
theorem pos_s (i : Nat) : posN nm sz (i + 1) = if 0 < sz then min nm.T.length ((i + 1) * sz.toNat) else nm.T.length := rfl
theorem pos_le : ∀ i, posN nm sz i ≤ nm.T.length
  | 0 => Nat.zero_le _
  | i + 1 => by
    rw [pos_s]
    split
    · exact Nat.min_le_left ..
    · exact Nat.le_refl _
theorem pos_mul (hs : 0 < sz) : ∀ i, posN nm sz i = min nm.T.length (i * sz.toNat)
  | 0 => by simp [pos_0]
  | i + 1 => by rw [pos_s]; rw [if_pos hs]
theorem pos_s0 (hs : ¬ 0 < sz) (i : Nat) : posN nm sz (i + 1) = nm.T.length := by rw [pos_s]; rw [if_neg hs]
theorem pos_stepM (hs : 0 < sz) (i : Nat) : mnI ((posN nm sz i : Int) + sz) (nm.T.length : Int) = (posN nm sz (i + 1) : Int) := by
  rw [pos_mul hs, pos_mul hs, Nat.succ_mul]
  generalize i * sz.toNat = k
  have : (sz.toNat : Int) = sz := Int.toNat_of_nonneg (by omega)
  unfold mnI
  split <;> omega
/-- One page further. -/
theorem pos_step (hs : 0 < sz) (i : Nat) : (posN nm sz (i + 1) : Int) = if (posN nm sz i : Int) + sz < (nm.T.length : Int) then (posN nm sz i : Int) + sz else (nm.T.length : Int) := by
  rw [pos_mul hs, pos_mul hs, Nat.succ_mul]
  generalize i * sz.toNat = k
  have : (sz.toNat : Int) = sz := Int.toNat_of_nonneg (by omega)
  split <;> omega
theorem pos_gt (hs : 0 < sz) {i : Nat} (h : posN nm sz i < nm.T.length) : posN nm sz i < posN nm sz (i + 1) := by
  have := pos_step (nm := nm) hs i
  split at this <;> omega
theorem pos_ge (i : Nat) : posN nm sz i ≤ posN nm sz (i + 1) := by
  by_cases hs : 0 < sz
  · have h1 := pos_step (nm := nm) hs i
    have h2 := @pos_le nm sz i
    split at h1 <;> omega
  · rw [pos_s0 hs]; exact pos_le i
theorem pos_big (hs : 0 < sz) (i : Nat) : min nm.T.length i ≤ posN nm sz i := by
  rw [pos_mul hs]
  have h1 : 1 ≤ sz.toNat := by omega
  have : i * 1 ≤ i * sz.toNat := Nat.mul_le_mul_left i h1
  omega
theorem last_is {i : Nat} (hi : i ≤ lastN nm sz) (h : posN nm sz (i + 1) = nm.T.length) : lastN nm sz = i := by
  refine stop_is hi (.inr (by simp [h]))
theorem last_gt {i : Nat} (hi : i ≤ lastN nm sz) (h : posN nm sz (i + 1) ≠ nm.T.length) : i < lastN nm sz := by
  have hs : 0 < sz := Decidable.byContradiction fun hs => h (pos_s0 hs i)
  have h1 := pos_big (nm := nm) hs (i + 1)
  have h2 := @pos_le nm sz (i + 1)
  refine stop_no hi (by omega) ?_
  simp [h]
theorem last_lt {i : Nat} (h : i < lastN nm sz) : posN nm sz (i + 1) < nm.T.length := by
  have h1 := stop_before (bad := fun i => decide (posN nm sz (i + 1) = nm.T.length)) (n := nm.T.length) h
  have h2 := @pos_le nm sz (i + 1)
  have := of_decide_eq_false h1
  omega
theorem last_end : posN nm sz (lastN nm sz + 1) = nm.T.length := by
  by_cases h : lastN nm sz < nm.T.length
  · exact of_decide_eq_true (stop_at (bad := fun i => decide (posN nm sz (i + 1) = nm.T.length)) h)
  · have h1 : lastN nm sz ≤ nm.T.length := stop_le
    by_cases hs : 0 < sz
    · have h2 := pos_big (nm := nm) hs (lastN nm sz + 1)
      have h3 := @pos_le nm sz (lastN nm sz + 1)
      omega
    · exact pos_s0 hs _
theorem last_le : lastN nm sz ≤ nm.T.length := stop_le
theorem last_le' (h : 0 < nm.T.length) : lastN nm sz + 1 ≤ nm.T.length := by
  by_cases h1 : lastN nm sz = nm.T.length
  · exfalso
    have h2 := last_lt (nm := nm) (sz := sz) (i := lastN nm sz - 1) (by omega)
    by_cases hs : 0 < sz
    · have h3 := pos_big (nm := nm) hs (lastN nm sz - 1 + 1)
      omega
    · rw [pos_s0 hs] at h2; omega
  · have := @last_le nm sz
    omega
theorem cutP_len : (cutP nm sz rv).length = lastN nm sz + 1 := by unfold cutP; simp
theorem cut_row {j : Nat} (h : j ≤ lastN nm sz) : row (.t (cutP nm sz rv)) j = cutRow nm sz rv j := by
  show ((cutP nm sz rv)[j]?).getD [] = _
  unfold cutP
  rw [List.getElem?_map, List.getElem?_range (by omega)]; rfl
theorem cut_take {i : Nat} (h : lastN nm sz = i) : (cutP nm sz rv).take i ++ [cutRow nm sz rv i] = cutP nm sz rv := by
  unfold cutP
  rw [h, List.range_succ, List.map_append, List.take_left' (by simp)]
  rfl
theorem cut_1 (h : lastN nm sz = 0) : [cutRow nm sz rv 0] = cutP nm sz rv := by
  have := cut_take (rv := rv) h
  simpa using this
end
theorem r_pcY : pcY.r = 2017 := rfl
theorem r_nwY : nwY.r = 2018 := rfl
theorem r_clY : clY.r = 2019 := rfl
section
variable {e : Env} {a b : E}
theorem d_drop : (E.o2 .tdrop a b).den e = .t ((a.den e).T.drop (b.den e).I.toNat) := id rfl
theorem d_take : (E.o2 .ttake a b).den e = .t ((a.den e).T.take (b.den e).I.toNat) := id rfl
theorem dI_mn' : ((E.o2 .mn a b).den e).I = mnI (b.den e).I (a.den e).I := id rfl
theorem d_catS : (E.o2 .cat a b).den e = .s ((a.den e).S ++ (b.den e).S) := id rfl
end
section
variable {o : Env} {i : Nat} {u : Nat → Value}
theorem nwY_all (hu : o.uf = UF) (hi : i ≤ stop (B9 (o.v 7090)) (o.v 7090).T.length) (hn : ((o.v 7090).T.length : Int) ≤ 9223372036854775807) : AllL (nwY.env o u i) nwYL0 := by
  have h1 := @stop_yes (B9 (o.v 7090)) (o.v 7090).T.length i hi
  have h2 := @stop_no (B9 (o.v 7090)) (o.v 7090).T.length i hi
  have h3 := @stop_end (B9 (o.v 7090)) (o.v 7090).T.length i hi
  simp only [B9] at h1 h2
  simp only [nwYL0, allL_cons, allL_nil, and_true]
  and_intros
  all_goals intro h
  all_goals simp only [hold_cons_iff, hold_nil_iff, allT_cons, allT_nil, ob_e, ob_t, dB_lt, dB_le, dB_ieq, dB_seq, dB_not, dB_beq, dB_bl, dB_and, dB_or, dI_il, dI_add, dI_sub, dI_size, dI_tlen, dS_sl, d_v, d_uf, d_cel, d_cell, d_il, ar_0, ar_1, LoopY.env, if_true, if_false, Nat.reduceEqDiff, r_nwY, I_i, B_b, S_s, Int.toNat_natCast, hu, UF_54, UF_55, B9, anyB, cast_lt, cast_le, decide_eq_true_eq, decide_eq_false_iff_not, Bool.or_eq_true, Bool.or_eq_false_iff, and_true, nosL] at h ⊢
  all_goals grind
theorem clY_all (hu : o.uf = UF) (hi : i ≤ stop (Bcl (o.v 7095) (o.v 7096).I (o.v 7097).S (o.v 7098)) (o.v 7095).T.length) (hl : (o.v 7095).T.length = (o.v 7098).T.length) : AllL (clY.env o u i) clYL0 := by
  have h1 := @stop_yes (Bcl (o.v 7095) (o.v 7096).I (o.v 7097).S (o.v 7098)) (o.v 7095).T.length i hi
  have h2 := @stop_no (Bcl (o.v 7095) (o.v 7096).I (o.v 7097).S (o.v 7098)) (o.v 7095).T.length i hi
  have h3 := @stop_end (Bcl (o.v 7095) (o.v 7096).I (o.v 7097).S (o.v 7098)) (o.v 7095).T.length i hi
  have hp : ((i : Int) - 1).toNat = i - 1 := by omega
  have hp2 : (0 : Int) < (i : Int) ↔ 0 < i := by omega
  simp only [Bcl] at h1 h2
  simp only [clYL0, allL_cons, allL_nil, and_true]
  and_intros
  all_goals intro h
  all_goals simp only [hold_cons_iff, hold_nil_iff, allT_cons, allT_nil, ob_e, ob_t, dB_lt, dB_le, dB_ieq, dB_seq, dB_not, dB_beq, dB_bl, dB_and, dB_or, dI_il, dI_add, dI_sub, dI_size, dI_tlen, dS_sl, d_v, d_uf, d_cel, d_cell, d_il, d_sub, ar_0, ar_1, ar_2, ar_3, LoopY.env, if_true, if_false, Nat.reduceEqDiff, r_clY, I_i, B_b, S_s, Int.toNat_natCast, hu, UF_56, UF_57, Bcl, anyB, cast_lt, cast_le, hp, hp2, decide_eq_true_eq, decide_eq_false_iff_not, Bool.or_eq_true, Bool.or_eq_false_iff, and_true, nosL] at h ⊢
  all_goals grind
theorem name_sz {nm : Dv} (hb : anyB (B1 nm) nm.T.length = false) (j : Nat) : ((cc (row nm j) 0).S.size : Int) ≤ 2147483647 := by
  by_cases hj : j < nm.T.length
  · have := anyB_false hb j hj
    simp only [B1, most, decide_eq_false_iff_not] at this
    omega
  · rw [row_out hj]; decide
theorem behindL : (⟨#[98, 101, 104, 105, 110, 100, 32]⟩ : ByteArray) = behind := by decide +kernel
theorem sub1 {n : Nat} : ((n : Int) - 1).toNat = n - 1 := by omega
theorem pcY_all0 (hu : o.uf = UF) (hn : ((o.v 7080).T.length : Int) ≤ 60) (hz : 0 ≤ (o.v 7081).I) (hb : anyB (B1 (o.v 7080)) (o.v 7080).T.length = false) : AllL (pcY.env o u 0) pcYL0 := by
  have hsz := name_sz hb
  have hL := fun h => @last_is (o.v 7080) (o.v 7081).I 0 (Nat.zero_le _) h
  have hG := fun h => @last_gt (o.v 7080) (o.v 7081).I 0 (Nat.zero_le _) h
  have hR := @cut_row (o.v 7080) (o.v 7081).I (o.v 7082) 0 (Nat.zero_le _)
  have hC := @cut_1 (o.v 7080) (o.v 7081).I (o.v 7082)
  have hle := @pos_le (o.v 7080) (o.v 7081).I (0 + 1)
  have hlen := @cutP_len (o.v 7080) (o.v 7081).I (o.v 7082)
  simp only [cutRow, pos_0] at hR hC
  simp only [pcYL0, allL_cons, allL_nil, and_true]
  by_cases hs : 0 < (o.v 7081).I
  · have hP := @pos_stepM (o.v 7080) (o.v 7081).I hs 0
    have hgt := @pos_gt (o.v 7080) (o.v 7081).I hs 0
    simp only [pos_0] at hgt
    simp only [pos_0] at hP
    and_intros
    all_goals intro h
    all_goals simp only [hold_cons_iff, hold_nil_iff, allT_cons, allT_nil, ob_e, ob_t, dB_lt, dB_le, dB_ieq, dB_seq, dB_not, dB_beq, dB_bl, dB_and, dB_or, dI_il, dI_add, dI_sub, dI_mn', dI_size, dI_tlen, dS_sl, d_v, d_uf, d_cel, d_cell, d_il, d_bl, d_sl, d_add, d_sub, d_take, d_drop, d_catS, d_size, d_tlen, dT_take, dT_cat, d_cat, ar_0, ar_1, ar_2, ar_3, LoopY.env, if_true, if_false, Nat.reduceEqDiff, I_i, B_b, S_s, T_t, T_i, T_cel, hd_1, hd_0, Int.toNat_natCast, Int.toNat_zero, toNat_succ, toNat_one, decide_eq_true_eq, decide_eq_false_iff_not, and_true, true_and, cast_lt, cast_le, hu, nosL, List.nil_append, List.append_nil, r_pcY, UF_50, UF_51, pos_0, hR, hlen, cc_0, cc_s, beq_iff_eq, beq_eq_false_iff_ne, ne_eq, behindL, sub1] at h ⊢
    all_goals try simp only [hP, sub1, Int.toNat_natCast] at h ⊢
    all_goals first
      | omega
      | grind
      | (simp_all [List.take_of_length_le, nos]; done)
      | (have hC := hC (hL (by omega))
         rw [if_neg (by omega)] at hC
         first | (rw [← hC]; simp_all [nos]; done) | grind)
      | (and_intros <;> first | trivial | omega | grind)
      | skip
  · have hP := @pos_s0 (o.v 7080) (o.v 7081).I hs 0
    and_intros
    all_goals intro h
    all_goals simp only [hold_cons_iff, hold_nil_iff, allT_cons, allT_nil, ob_e, ob_t, dB_lt, dB_le, dB_ieq, dB_seq, dB_not, dB_beq, dB_bl, dB_and, dB_or, dI_il, dI_add, dI_sub, dI_mn', dI_size, dI_tlen, dS_sl, d_v, d_uf, d_cel, d_cell, d_il, d_bl, d_sl, d_add, d_sub, d_take, d_drop, d_catS, d_size, d_tlen, dT_take, dT_cat, d_cat, ar_0, ar_1, ar_2, ar_3, LoopY.env, if_true, if_false, Nat.reduceEqDiff, I_i, B_b, S_s, T_t, T_i, T_cel, hd_1, hd_0, Int.toNat_natCast, Int.toNat_zero, toNat_succ, toNat_one, decide_eq_true_eq, decide_eq_false_iff_not, and_true, true_and, cast_lt, cast_le, hu, nosL, List.nil_append, List.append_nil, r_pcY, UF_50, UF_51, pos_0, hR, hlen, cc_0, cc_s, beq_iff_eq, beq_eq_false_iff_ne, ne_eq, behindL, sub1] at h ⊢
    all_goals first
      | omega
      | grind
      | (simp_all [List.take_of_length_le, nos]; done)
      | (have hC := hC (hL (by omega))
         rw [if_neg (by omega)] at hC
         first | (rw [← hC]; simp_all [nos]; done) | grind)
      | (and_intros <;> first | trivial | omega | grind)
      | skip
theorem pcY_all1 (hu : o.uf = UF) (h0 : 0 < i) (hi : i ≤ lastN (o.v 7080) (o.v 7081).I) (hp : posN (o.v 7080) (o.v 7081).I i < (o.v 7080).T.length) (hn : ((o.v 7080).T.length : Int) ≤ 60) (hz : 0 ≤ (o.v 7081).I) (hb : anyB (B1 (o.v 7080)) (o.v 7080).T.length = false) : AllL (pcY.env o u i) pcYL1 := by
  have hsz := name_sz hb
  have hL := fun h => @last_is (o.v 7080) (o.v 7081).I i hi h
  have hG := fun h => @last_gt (o.v 7080) (o.v 7081).I i hi h
  have hR := @cut_row (o.v 7080) (o.v 7081).I (o.v 7082) i hi
  have hC := @cut_take (o.v 7080) (o.v 7081).I (o.v 7082) i
  have hle := @pos_le (o.v 7080) (o.v 7081).I (i + 1)
  have hlen := @cutP_len (o.v 7080) (o.v 7081).I (o.v 7082)
  simp only [cutRow] at hR hC
  simp only [pcYL1, allL_cons, allL_nil, and_true]
  by_cases hs : 0 < (o.v 7081).I
  · have hP := @pos_stepM (o.v 7080) (o.v 7081).I hs i
    have hgt := @pos_gt (o.v 7080) (o.v 7081).I hs i
    have hgt := hgt hp
    and_intros
    all_goals intro h
    all_goals simp only [hold_cons_iff, hold_nil_iff, allT_cons, allT_nil, ob_e, ob_t, dB_lt, dB_le, dB_ieq, dB_seq, dB_not, dB_beq, dB_bl, dB_and, dB_or, dI_il, dI_add, dI_sub, dI_mn', dI_size, dI_tlen, dS_sl, d_v, d_uf, d_cel, d_cell, d_il, d_bl, d_sl, d_add, d_sub, d_take, d_drop, d_catS, d_size, d_tlen, dT_take, dT_cat, d_cat, ar_0, ar_1, ar_2, ar_3, LoopY.env, if_true, if_false, Nat.reduceEqDiff, I_i, B_b, S_s, T_t, T_i, T_cel, hd_1, hd_0, Int.toNat_natCast, Int.toNat_zero, toNat_succ, toNat_one, decide_eq_true_eq, decide_eq_false_iff_not, and_true, true_and, cast_lt, cast_le, hu, nosL, List.nil_append, List.append_nil, r_pcY, UF_50, UF_51, pos_0, hR, hlen, cc_0, cc_s, beq_iff_eq, beq_eq_false_iff_ne, ne_eq, behindL, sub1] at h ⊢
    all_goals try simp only [hP, sub1, Int.toNat_natCast] at h ⊢
    all_goals first
      | omega
      | grind
      | (simp_all [List.take_of_length_le, nos]; done)
      | (have hC := hC (hL (by omega))
         rw [if_neg (by omega)] at hC
         first | (rw [← hC]; simp_all [nos]; done) | grind)
      | (and_intros <;> first | trivial | omega | grind)
      | (have hC := hC (hL (by omega))
         rw [if_neg (by omega)] at hC
         first
           | exact ⟨by omega, by omega, by omega, hC⟩
           | exact ⟨by omega, by omega, hC⟩
           | exact ⟨by omega, hC⟩)
      | skip
  · have hP := @pos_s0 (o.v 7080) (o.v 7081).I hs i
    and_intros
    all_goals intro h
    all_goals simp only [hold_cons_iff, hold_nil_iff, allT_cons, allT_nil, ob_e, ob_t, dB_lt, dB_le, dB_ieq, dB_seq, dB_not, dB_beq, dB_bl, dB_and, dB_or, dI_il, dI_add, dI_sub, dI_mn', dI_size, dI_tlen, dS_sl, d_v, d_uf, d_cel, d_cell, d_il, d_bl, d_sl, d_add, d_sub, d_take, d_drop, d_catS, d_size, d_tlen, dT_take, dT_cat, d_cat, ar_0, ar_1, ar_2, ar_3, LoopY.env, if_true, if_false, Nat.reduceEqDiff, I_i, B_b, S_s, T_t, T_i, T_cel, hd_1, hd_0, Int.toNat_natCast, Int.toNat_zero, toNat_succ, toNat_one, decide_eq_true_eq, decide_eq_false_iff_not, and_true, true_and, cast_lt, cast_le, hu, nosL, List.nil_append, List.append_nil, r_pcY, UF_50, UF_51, pos_0, hR, hlen, cc_0, cc_s, beq_iff_eq, beq_eq_false_iff_ne, ne_eq, behindL, sub1] at h ⊢
    all_goals first
      | omega
      | grind
      | (simp_all [List.take_of_length_le, nos]; done)
      | (have hC := hC (hL (by omega))
         rw [if_neg (by omega)] at hC
         first | (rw [← hC]; simp_all [nos]; done) | grind)
      | (and_intros <;> first | trivial | omega | grind)
      | (have hC := hC (hL (by omega))
         rw [if_neg (by omega)] at hC
         first
           | exact ⟨by omega, by omega, by omega, hC⟩
           | exact ⟨by omega, by omega, hC⟩
           | exact ⟨by omega, hC⟩)
      | skip
end
end Go.Proofs.Ytgopjdknmjjheaa.sxPages

namespace Go.Proofs.Ytgopjdknmjjheaa.sxPages
open Go.Sx Go.RowKit
set_option linter.unusedVariables false
set_option linter.unusedSimpArgs false
set_option maxRecDepth 100000

def s9 : Dv := .s ⟨#[57]⟩
def s12 : Dv := .s ⟨#[49, 50]⟩
def lostP (nm : Dv) (sz : Int) (k : Nat) : Dv := .t (List.take k (cutP nm sz s9) ++ ([[Dv.i 0, Dv.s ⟨#[]⟩, Dv.s ⟨#[]⟩, Dv.i 8]] ++ [[nm, Dv.s ⟨#[]⟩, s12, Dv.i 0]]))
section
variable {nm : Dv} {sz : Int}
theorem behind_sz : behind.size = 7 := by decide +kernel
theorem name_ok (h9 : anyB (B9 nm) nm.T.length = false) {j : Nat} (hj : j < nm.T.length) : (cc (row nm j) 0).S.toList ≠ [] ∧ ((cc (row nm j) 0).S.size : Int) ≤ 30 := by
  have := anyB_false h9 j hj
  simp only [B9, Bool.or_eq_false_iff, decide_eq_false_iff_not, beq_eq_false_iff_ne, ne_eq] at this
  exact ⟨this.1, by omega⟩
theorem slice_ok (h9 : anyB (B9 nm) nm.T.length = false) (hn : nm.T.length ≤ 60) (a b : Nat) : decide ((((nm.T.take b).drop a).length : Int) ≤ 60) = true ∧ anyB (B5 (.t ((nm.T.take b).drop a))) ((nm.T.take b).drop a).length = false := by
  have hl : ((nm.T.take b).drop a).length ≤ nm.T.length := by rw [List.length_drop, List.length_take]; omega
  refine ⟨decide_eq_true (by omega), anyB_of fun i hi => ?_⟩
  rw [List.length_drop, List.length_take] at hi
  have e : row (.t ((nm.T.take b).drop a)) i = row nm (a + i) := by
    show ((((nm.T.take b).drop a))[i]?).getD [] = ((nm.T)[a + i]?).getD []
    rw [List.getElem?_drop, List.getElem?_take_of_lt (by omega)]
  have := name_ok h9 (j := a + i) (by omega)
  unfold B5
  rw [e]
  simp only [Bool.or_eq_false_iff, decide_eq_false_iff_not, beq_eq_false_iff_ne, ne_eq]
  exact ⟨this.1, by omega⟩
theorem ba_append_size (a b : ByteArray) : (a ++ b).size = a.size + b.size := ByteArray.size_append
theorem cutRow_ok (h9 : anyB (B9 nm) nm.T.length = false) (hn : nm.T.length ≤ 60) (i : Nat) : okPg (cutRow nm sz s9 i) = true := by
  obtain ⟨h1, h2⟩ := slice_ok h9 hn (posN nm sz i) (posN nm sz (i + 1))
  unfold okPg cutRow
  simp only [cc_0, cc_s, T_t, I_i, S_s, h1, h2, Bool.true_and, Bool.not_false, Bool.and_true]
  have hs9 : decide ((s9.S.size : Int) ≤ 40) = true := by decide +kernel
  rw [hs9]
  simp only [Bool.and_true, decide_true, Bool.true_or]
  split
  · rename_i hp
    have := (name_ok h9 (j := posN nm sz (i + 1) - 1) (by omega)).2
    refine decide_eq_true ?_
    rw [ba_append_size, behind_sz]; omega
  · decide +kernel
theorem cut_good (h9 : anyB (B9 nm) nm.T.length = false) (hn : nm.T.length ≤ 60) : anyB (B7 (.t (cutP nm sz s9))) (lastN nm sz + 1) = false :=
  anyB_of fun i hi => by
    unfold B7
    rw [cut_row (by omega), cutRow_ok h9 hn]; rfl
theorem cut_er {i : Nat} (h : i ≤ lastN nm sz) : erAt (.t (cutP nm sz s9)) i = 0 := by unfold erAt; rw [cut_row h]; rfl
theorem cut_fr {i : Nat} (h : i < lastN nm sz) : (frAt (.t (cutP nm sz s9)) i).toList ≠ [] := by
  unfold frAt
  rw [cut_row (by omega)]
  show (if posN nm sz (i + 1) < nm.T.length then behind ++ (cc (row nm (posN nm sz (i + 1) - 1)) 0).S else nos).toList ≠ []
  rw [if_pos (last_lt h)]
  intro hh
  have := (size0 (s := behind ++ (cc (row nm (posN nm sz (i + 1) - 1)) 0).S)).mpr hh
  rw [ba_append_size, behind_sz] at this
  omega
theorem cut_frL : (frAt (.t (cutP nm sz s9)) (lastN nm sz)).toList = [] := by
  unfold frAt
  rw [cut_row (Nat.le_refl _)]
  show (if posN nm sz (lastN nm sz + 1) < nm.T.length then behind ++ (cc (row nm (posN nm sz (lastN nm sz + 1) - 1)) 0).S else nos).toList = []
  rw [if_neg (by rw [last_end]; omega)]
  exact nosL
theorem stop_eq {B : Nat → Bool} {n k : Nat} (h1 : ∀ j, j < k → B j = false) (h2 : k < n → B k = true) (h3 : k ≤ n) : stop B n = k := by
  have hle := @stop_le B n
  rcases Nat.lt_trichotomy (stop B n) k with h | h | h
  · have := stop_at (bad := B) (n := n) (by omega)
    rw [h1 _ h] at this; cases this
  · exact h
  · have := stop_before (bad := B) (n := n) h
    rw [h2 (by omega)] at this; cases this
theorem cut_end : endN (.t (cutP nm sz s9)) = lastN nm sz := by
  unfold endN
  refine stop_eq (fun j hj => ?_) (fun _ => ?_) ?_
  · unfold Bend
    rw [cut_er (by omega)]
    simp [cut_fr hj]
  · unfold Bend
    simp [cut_frL]
  · show _ ≤ (cutP nm sz s9).length
    rw [cutP_len]; omega
theorem cut_kind : kindN false (.t (cutP nm sz s9)) = if lastN nm sz = 0 then 6 else 7 := by
  unfold kindN
  rw [cut_end, cut_er (Nat.le_refl _), if_pos rfl]
theorem nms_to : ∀ r, r ≤ lastN nm sz + 1 → nmsTo (.t (cutP nm sz s9)) r = nm.T.take (posN nm sz r)
  | 0, _ => by rw [nmsTo_0, pos_0]; rfl
  | r + 1, h => by
    rw [nmsTo_succ, nms_to r (by omega)]
    unfold nmsAt
    rw [cut_row (by omega)]
    show nm.T.take (posN nm sz r) ++ (nm.T.take (posN nm sz (r + 1))).drop (posN nm sz r) = _
    have h1 := @pos_ge nm sz r
    have e : nm.T.take (posN nm sz r) = (nm.T.take (posN nm sz (r + 1))).take (posN nm sz r) := by rw [List.take_take, Nat.min_eq_left h1]
    rw [e, List.take_append_drop]
theorem nms_all : nmsTo (.t (cutP nm sz s9)) (lastN nm sz + 1) = nm.T := by
  rw [nms_to _ (Nat.le_refl _), last_end, List.take_length]
theorem nms_0 (h : lastN nm sz = 0) : (cc (row (.t (cutP nm sz s9)) 0) 0).T = nm.T := by
  have := @nms_all nm sz
  rw [h, nmsTo_1] at this
  exact this
theorem cut_rv : (cc (row (.t (cutP nm sz s9)) 0) 2) = s9 := by rw [cut_row (Nat.zero_le _)]; rfl
theorem tx_same' {d : Dv} : anyB (Btx (.t (fst1 d.T)) d) d.T.length = false := tx_same (l := d.T) rfl
theorem cut_calls {lim rv mt : Dv} : callsF false lim rv mt (.t (cutP nm sz s9)) = callsN lim rv mt (.t (cutP nm sz s9)) := by
  unfold callsF again; simp
theorem cl_ok {lim rv : Dv} {mt : Dv} : anyB (Bcl (.t (callsN lim rv mt (.t (cutP nm sz s9)))) lim.I rv.S (.t (cutP nm sz s9))) (lastN nm sz + 1) = false := by
  refine anyB_of fun i hi => ?_
  unfold Bcl
  rw [calls_row (by rw [cut_end]; omega)]
  unfold callAt
  by_cases h0 : i = 0
  · subst h0
    rw [if_pos rfl, if_neg (by omega)]
    simp [cc_0, cc_s, nos, S_s, nosL]
  · rw [if_neg h0, if_pos (by omega)]
    simp [cc_0, cc_s, nos, S_s, nosL]
/-! a page has expired -/
variable {k : Nat}
theorem lost_len (hk : k ≤ lastN nm sz) : (lostP nm sz k).T.length = k + 2 := by
  show (List.take k (cutP nm sz s9) ++ _).length = _
  rw [List.length_append, List.length_take, cutP_len, Nat.min_eq_left (by omega)]; rfl
theorem lost_row {j : Nat} (hj : j < k) (hk : k ≤ lastN nm sz) : row (lostP nm sz k) j = cutRow nm sz s9 j := by
  rw [← cut_row (by omega : j ≤ lastN nm sz)]
  show ((List.take k (cutP nm sz s9) ++ _)[j]?).getD [] = ((cutP nm sz s9)[j]?).getD []
  rw [List.getElem?_append_left (by rw [List.length_take, cutP_len]; omega), List.getElem?_take_of_lt hj]
theorem lost_k (hk : k ≤ lastN nm sz) : row (lostP nm sz k) k = [Dv.i 0, Dv.s ⟨#[]⟩, Dv.s ⟨#[]⟩, Dv.i 8] := by
  have hl : (List.take k (cutP nm sz s9)).length = k := by rw [List.length_take, cutP_len]; omega
  show ((List.take k (cutP nm sz s9) ++ _)[k]?).getD [] = _
  rw [List.getElem?_append_right (by omega), hl, Nat.sub_self]; rfl
theorem lost_k1 (hk : k ≤ lastN nm sz) : row (lostP nm sz k) (k + 1) = [nm, Dv.s ⟨#[]⟩, s12, Dv.i 0] := by
  have hl : (List.take k (cutP nm sz s9)).length = k := by rw [List.length_take, cutP_len]; omega
  show ((List.take k (cutP nm sz s9) ++ _)[k + 1]?).getD [] = _
  rw [List.getElem?_append_right (by omega), hl, show k + 1 - k = 1 by omega]; rfl
theorem lost_good (h9 : anyB (B9 nm) nm.T.length = false) (hn : nm.T.length ≤ 60) (hk : k ≤ lastN nm sz) : anyB (B7 (lostP nm sz k)) (lostP nm sz k).T.length = false := by
  rw [lost_len hk]
  refine anyB_of fun i hi => ?_
  unfold B7
  rcases Nat.lt_trichotomy i k with h | h | h
  · rw [lost_row h hk, cutRow_ok h9 hn]; rfl
  · subst h; rw [lost_k hk]; decide +kernel
  · obtain rfl : i = k + 1 := by omega
    rw [lost_k1 hk]
    have h1 := slice_ok h9 hn 0 nm.T.length
    rw [List.take_length, List.drop_zero] at h1
    have h2 : anyB (B5 nm) nm.T.length = false := h1.2
    unfold okPg
    simp only [cc_0, cc_s, I_i, S_s, h2, h1.1, Bool.true_and, Bool.not_false, Bool.and_true]
    decide +kernel
theorem lost_end (hk : k ≤ lastN nm sz) : endN (lostP nm sz k) = k := by
  unfold endN
  rw [lost_len hk]
  refine stop_eq (fun j hj => ?_) (fun _ => ?_) (by omega)
  · have h1 := @cut_er nm sz j (by omega)
    have h2 := @cut_fr nm sz j (by omega)
    unfold erAt at h1
    unfold frAt at h2
    rw [cut_row (by omega)] at h1 h2
    unfold Bend erAt frAt
    rw [lost_row hj hk, h1]
    simp [h2]
  · unfold Bend erAt
    rw [lost_k hk]; rfl
theorem lost_er (hk : k ≤ lastN nm sz) : erAt (lostP nm sz k) k = 8 := by unfold erAt; rw [lost_k hk]; rfl
theorem lost_er1 (hk : k ≤ lastN nm sz) : erAt (lostP nm sz k) (k + 1) = 0 := by unfold erAt; rw [lost_k1 hk]; rfl
theorem lost_again (h0 : 0 < k) (hk : k ≤ lastN nm sz) : again true (lostP nm sz k) = true := by
  unfold again
  rw [lost_end hk, lost_er hk]; simp [h0]
theorem lost_kind3 (h0 : 0 < k) (hk : k ≤ lastN nm sz) : kindN true (lostP nm sz k) = 3 := by
  unfold kindN
  rw [lost_again h0 hk, lost_end hk, lost_er hk, lost_er1 hk]; rfl
theorem lost_kind2 (hk : k ≤ lastN nm sz) : kindN false (lostP nm sz k) = 2 := by
  have : again false (lostP nm sz k) = false := by unfold again; simp
  unfold kindN
  rw [this, lost_end hk, lost_er hk]; rfl
theorem lost_calls {lim rv mt : Dv} (h0 : 0 < k) (hk : k ≤ lastN nm sz) : callsF true lim rv mt (lostP nm sz k) = callsN lim rv mt (lostP nm sz k) ++ [[.i 0, .s nos, rv, mt]] := by
  unfold callsF
  rw [lost_again h0 hk]; rfl
theorem lost_callsL {lim rv mt : Dv} (h0 : 0 < k) (hk : k ≤ lastN nm sz) : (callsF true lim rv mt (lostP nm sz k)).length = k + 2 := by
  rw [lost_calls h0 hk, List.length_append, calls_len, lost_end hk]; rfl
theorem lost_last {lim rv mt : Dv} (h0 : 0 < k) (hk : k ≤ lastN nm sz) : row (.t (callsF true lim rv mt (lostP nm sz k))) (k + 1) = [.i 0, .s nos, rv, mt] := by
  rw [lost_calls h0 hk]
  show ((callsN lim rv mt (lostP nm sz k) ++ _)[k + 1]?).getD [] = _
  rw [List.getElem?_append_right (by rw [calls_len, lost_end hk]; omega), calls_len, lost_end hk, show k + 1 - (k + 1) = 0 by omega]; rfl
end
end Go.Proofs.Ytgopjdknmjjheaa.sxPages
