/-
  THE LAWS FnBackoff*: what the loops have to show: guards and collections.
-/
import Derived.Test.YtagpchabkplggaaSxBoA
namespace Go.Proofs.Ytagpchabkplggaa.sxBackoff
open Go.Sx
set_option linter.unusedVariables false
abbrev bo0 : E := .o2 .lt (.il 2147483647) (.o1 .size (.o2 (.cell 1) (.v 7000) (.v 2000)))
abbrev bo1 : E := .o2 .lt (.v 2000) (.o1 .tlen (.v 7000))
abbrev bo2 : Facts := [(bo1, true)]
abbrev bo3 : E := .uf 1 (.o2 .cel (.v 7000) (.il 0))
def fits22L : List (Facts × List Ob) :=
  [((((bo0, true) : E × Bool) :: bo2),
    [(.e bo3)]),
   ((((bo0, false) : E × Bool) :: bo2),
    [(.e (.o2 .lt (.v 2000) (.uf 2 (.o2 .cel (.v 7000) (.il 0)))))]),
   ([(bo1, false)],
    [(.e (.o1 .not bo3))])]
abbrev bo4 : E := .o2 .lt (.o2 (.cell 0) (.v 7001) (.v 2001)) (.il 1)
abbrev bo5 : E := .o2 .lt (.v 2001) (.o1 .tlen (.v 7001))
abbrev bo6 : Facts := [(bo5, true)]
abbrev bo7 : E := .uf 3 (.o2 .cel (.v 7001) (.il 0))
abbrev bo8 : E := .o2 .lt (.il 8) (.o2 (.cell 0) (.v 7001) (.v 2001))
abbrev bo9 : Facts := ((bo4, false) : E × Bool) :: bo6
abbrev bo10 : E := .o2 .lt (.il 40) (.o1 .size (.o2 (.cell 1) (.v 7001) (.v 2001)))
abbrev bo11 : Facts := ((bo8, false) : E × Bool) :: bo9
abbrev bo12 : E := .o2 .lt (.o2 (.cell 2) (.v 7001) (.v 2001)) (.il (-9007199254740992))
abbrev bo13 : Facts := ((bo10, false) : E × Bool) :: bo11
abbrev bo14 : E := .o2 .lt (.il 9007199254740992) (.o2 (.cell 2) (.v 7001) (.v 2001))
abbrev bo15 : Facts := ((bo12, false) : E × Bool) :: bo13
abbrev bo16 : E := .o2 .lt (.o2 (.cell 2) (.v 7001) (.v 2001)) (.il 0)
abbrev bo17 : E := .o2 .ieq (.o2 (.cell 0) (.v 7001) (.v 2001)) (.il 8)
abbrev bo18 : Facts := ((bo14, false) : E × Bool) :: bo15
abbrev bo19 : Facts := ((bo17, true) : E × Bool) :: bo18
abbrev bo20 : E := .o2 .lt (.il 1125899906842624) (.o2 (.cell 2) (.v 7001) (.v 2001))
abbrev bo21 : Facts := ((bo16, false) : E × Bool) :: bo19
abbrev bo22 : List Ob := [(.e (.o2 .lt (.v 2001) (.uf 4 (.o2 .cel (.v 7001) (.il 0)))))]
def boGoodL : List (Facts × List Ob) :=
  [((((bo4, true) : E × Bool) :: bo6),
    [(.e bo7)]),
   ((((bo8, true) : E × Bool) :: bo9),
    [(.e bo7)]),
   ((((bo10, true) : E × Bool) :: bo11),
    [(.e bo7)]),
   ((((bo12, true) : E × Bool) :: bo13),
    [(.e bo7)]),
   ((((bo14, true) : E × Bool) :: bo15),
    [(.e bo7)]),
   ((((bo16, true) : E × Bool) :: bo19),
    [(.e bo7)]),
   ((((bo20, true) : E × Bool) :: bo21),
    [(.e bo7)]),
   ((((bo20, false) : E × Bool) :: bo21),
    bo22),
   ((((bo17, false) : E × Bool) :: bo18),
    bo22),
   ([(bo5, false)],
    [(.e (.o1 .not bo7))])]
abbrev bo23 : E := .uf 70 (.o2 .cel (.v 7200) (.o2 .cel (.v 7201) (.o2 .cel (.v 7202) (.o2 .cel (.v 7203) (.o2 .cel (.v 2020) (.il 0))))))
def gc0L : List (Facts × List Ob) :=
  [([],
    [(.t bo23 (.uf 72 (.o2 .cel (.v 7200) (.o2 .cel (.v 7201) (.o2 .cel (.v 7202) (.o2 .cel (.v 7203) (.il 0)))))))])]
abbrev bo24 : E := .o2 (.mf .s) bo23 (.v 7209)
abbrev bo25 : E := .o2 (.cell 1) bo23 bo24
abbrev bo26 : E := .o2 .sub (.v 7202) (.o2 (.cell 2) (.v 7201) bo25)
abbrev bo27 : E := .o2 .lt (.o2 .mul (.v 7203) (.il 2)) bo26
abbrev bo28 : E := .o2 (.cell 1) (.v 7201) bo25
abbrev bo29 : Facts := [((.o2 .le (.il 0) bo24), true)]
abbrev bo30 : Facts := ((bo28, true) : E × Bool) :: bo29
abbrev bo31 : E := .uf 70 (.o2 .cel (.v 7200) (.o2 .cel (.v 7201) (.o2 .cel (.v 7202) (.o2 .cel (.v 7203) (.o2 .cel (.o2 .tcat (.v 2020) (.o2 .cel (.v 7209) (.il 0))) (.il 0))))))
abbrev bo32 : List Ob := [(.e (.o2 .le (.il 0) bo25)), (.e (.o2 .le (.il 0) bo25)), (.e (.o2 .le (.il 0) bo25)), (.t (.o2 (.md .s) bo23 (.v 7209)) bo31)]
abbrev bo33 : List Ob := [(.e (.o2 .le (.il 0) bo25)), (.e (.o2 .le (.il 0) bo25)), (.e (.o2 .le (.il 0) bo25)), (.t bo23 bo31)]
abbrev bo34 : E := .o2 .lt (.o2 .mul (.v 7203) (.il 2)) (.il 9223372036854775807)
abbrev bo35 : Facts := ((bo28, false) : E × Bool) :: bo29
def gc1L : List (Facts × List Ob) :=
  [((((bo27, true) : E × Bool) :: bo30),
    (((.e (.o2 .le (.o2 .mul (.v 7203) (.il 2)) (.il 9223372036854775807))) : Ob) :: ((.e (.o2 .le (.il (-9223372036854775808)) (.o2 .mul (.v 7203) (.il 2)))) : Ob) :: ((.e (.o2 .le bo26 (.il 9223372036854775807))) : Ob) :: ((.e (.o2 .le (.il (-9223372036854775808)) bo26)) : Ob) :: bo32)),
   ((((bo27, false) : E × Bool) :: bo30),
    (((.e (.o2 .le (.o2 .mul (.v 7203) (.il 2)) (.il 9223372036854775807))) : Ob) :: ((.e (.o2 .le (.il (-9223372036854775808)) (.o2 .mul (.v 7203) (.il 2)))) : Ob) :: ((.e (.o2 .le bo26 (.il 9223372036854775807))) : Ob) :: ((.e (.o2 .le (.il (-9223372036854775808)) bo26)) : Ob) :: bo33)),
   ((((bo34, true) : E × Bool) :: bo35),
    (((.e (.o2 .le (.il (-9223372036854775808)) (.o2 .mul (.v 7203) (.il 2)))) : Ob) :: bo32)),
   ((((bo34, false) : E × Bool) :: bo35),
    (((.e (.o2 .le (.o2 .mul (.v 7203) (.il 2)) (.il 9223372036854775807))) : Ob) :: bo33))]
abbrev bo36 : E := .uf 73 (.o2 .cel (.v 7400) (.o2 .cel (.v 7401) (.o2 .cel (.v 7402) (.o2 .cel (.v 7403) (.o2 .cel (.v 2022) (.il 0))))))
def sp0L : List (Facts × List Ob) :=
  [([],
    [(.t bo36 (.uf 74 (.o2 .cel (.v 7400) (.o2 .cel (.v 7401) (.o2 .cel (.v 7402) (.o2 .cel (.v 7403) (.il 0)))))))])]
abbrev bo37 : E := .o2 .sub (.v 7402) (.o2 (.cell 1) (.v 7401) (.o2 (.mf .s) (.v 7401) (.v 7409)))
abbrev bo38 : E := .o2 .lt (.o2 .mul (.il 2) (.v 7403)) bo37
abbrev bo39 : E := .o2 .le (.il 0) (.o2 (.mf .s) (.v 7401) (.v 7409))
abbrev bo40 : Facts := [((.o2 .le (.il 0) (.o2 (.mf .s) bo36 (.v 7409))), true)]
abbrev bo41 : Facts := ((bo39, true) : E × Bool) :: bo40
abbrev bo42 : E := .uf 73 (.o2 .cel (.v 7400) (.o2 .cel (.v 7401) (.o2 .cel (.v 7402) (.o2 .cel (.v 7403) (.o2 .cel (.o2 .tcat (.v 2022) (.o2 .cel (.v 7409) (.il 0))) (.il 0))))))
abbrev bo43 : List Ob := [(.t (.o2 (.md .s) bo36 (.v 7409)) bo42)]
abbrev bo44 : List Ob := [(.t bo36 bo42)]
abbrev bo45 : E := .o2 .lt (.o2 .mul (.il 2) (.v 7403)) (.o2 .sub (.v 7402) (.il 0))
abbrev bo46 : Facts := ((bo39, false) : E × Bool) :: bo40
def sp1L : List (Facts × List Ob) :=
  [((((bo38, true) : E × Bool) :: bo41),
    (((.e (.o2 .le (.o2 .mul (.il 2) (.v 7403)) (.il 9223372036854775807))) : Ob) :: ((.e (.o2 .le (.il (-9223372036854775808)) (.o2 .mul (.il 2) (.v 7403)))) : Ob) :: ((.e (.o2 .le bo37 (.il 9223372036854775807))) : Ob) :: ((.e (.o2 .le (.il (-9223372036854775808)) bo37)) : Ob) :: bo43)),
   ((((bo38, false) : E × Bool) :: bo41),
    (((.e (.o2 .le (.o2 .mul (.il 2) (.v 7403)) (.il 9223372036854775807))) : Ob) :: ((.e (.o2 .le (.il (-9223372036854775808)) (.o2 .mul (.il 2) (.v 7403)))) : Ob) :: ((.e (.o2 .le bo37 (.il 9223372036854775807))) : Ob) :: ((.e (.o2 .le (.il (-9223372036854775808)) bo37)) : Ob) :: bo44)),
   ((((bo45, true) : E × Bool) :: bo46),
    (((.e (.o2 .le (.o2 .mul (.il 2) (.v 7403)) (.il 9223372036854775807))) : Ob) :: ((.e (.o2 .le (.il (-9223372036854775808)) (.o2 .mul (.il 2) (.v 7403)))) : Ob) :: ((.e (.o2 .le (.o2 .sub (.v 7402) (.il 0)) (.il 9223372036854775807))) : Ob) :: ((.e (.o2 .le (.il (-9223372036854775808)) (.o2 .sub (.v 7402) (.il 0)))) : Ob) :: bo43)),
   ((((bo45, false) : E × Bool) :: bo46),
    (((.e (.o2 .le (.o2 .mul (.il 2) (.v 7403)) (.il 9223372036854775807))) : Ob) :: ((.e (.o2 .le (.il (-9223372036854775808)) (.o2 .mul (.il 2) (.v 7403)))) : Ob) :: ((.e (.o2 .le (.o2 .sub (.v 7402) (.il 0)) (.il 9223372036854775807))) : Ob) :: ((.e (.o2 .le (.il (-9223372036854775808)) (.o2 .sub (.v 7402) (.il 0)))) : Ob) :: bo44))]
abbrev bo47 : E := .o2 .cel (.v 7300) (.o2 .cel (.v 7301) (.o2 .cel (.v 7302) (.o2 .cel (.v 2021) (.il 0))))
abbrev bo48 : E := .o2 (.mf .s) (.uf 61 bo47) (.o2 (.cell 1) (.v 7302) (.v 2021))
abbrev bo49 : E := .o2 (.cell 1) (.uf 61 bo47) bo48
abbrev bo50 : E := .o2 (.cell 2) (.uf 62 bo47) bo49
abbrev bo51 : E := .o2 .sub (.o2 (.cell 2) (.v 7302) (.v 2021)) bo50
abbrev bo52 : E := .o2 .lt (.o2 .mul (.v 7301) (.il 2)) bo51
abbrev bo53 : E := .o2 (.cell 1) (.uf 62 bo47) bo49
abbrev bo54 : E := .o2 .le (.il 0) bo48
abbrev bo55 : E := .o2 .ieq (.o2 (.cell 0) (.v 7302) (.v 2021)) (.il 1)
abbrev bo56 : E := .o2 .lt (.v 2021) (.o1 .tlen (.v 7302))
abbrev bo57 : Facts := [(bo56, true)]
abbrev bo58 : Facts := ((bo55, true) : E × Bool) :: bo57
abbrev bo59 : Facts := ((bo54, true) : E × Bool) :: bo58
abbrev bo60 : Facts := ((bo53, true) : E × Bool) :: bo59
abbrev bo61 : Facts := ((bo52, true) : E × Bool) :: bo60
abbrev bo62 : E := .o2 .tcat (.uf 62 bo47) (.o2 .cel (.v 7300) (.o2 .cel (.bl false) (.o2 .cel (.il 0) (.il 0))))
abbrev bo63 : E := .o1 .tlen (.uf 62 bo47)
abbrev bo64 : E := .o2 .cel (.bl true) (.o2 .cel (.uf 60 bo47) (.il 0))
abbrev bo65 : E := .o2 .cel (.v 7300) (.o2 .cel (.v 7301) (.o2 .cel (.v 7302) (.o2 .cel (.o2 .add (.v 2021) (.il 1)) (.il 0))))
abbrev bo66 : E := .o2 .cel (.v 7300) (.o2 .cel (.v 7301) (.o2 .cel (.v 7302) (.il 0)))
abbrev bo67 : E := .o2 (.cell 0) (.uf 63 bo66) (.il 0)
abbrev bo68 : E := .o2 (.cell 1) (.uf 63 bo66) (.il 0)
abbrev bo69 : List Ob := [(.e (.o2 .ieq (.uf 60 bo47) (.uf 60 bo65)))]
abbrev bo70 : List Ob := ((.t (.o2 (.mp .s) (.uf 61 bo47) (.o2 .cel (.o2 (.cell 1) (.v 7302) (.v 2021)) (.o2 .cel bo63 (.il 0)))) (.uf 61 bo65)) : Ob) :: bo69
abbrev bo71 : List Ob := ((.t (.o2 .tset bo62 (.o2 .cel bo63 (.o2 .cel (.o2 (.cell 0) bo62 bo63) bo64))) (.uf 62 bo65)) : Ob) :: ((.e (.o2 .beq (.bl false) bo67)) : Ob) :: ((.e (.o2 .ieq (.il 0) bo68)) : Ob) :: bo70
abbrev bo72 : List Ob := ((.e (.o2 .le (.il 0) bo49)) : Ob) :: ((.e (.o2 .le (.il 0) bo49)) : Ob) :: ((.e (.o2 .le (.il 0) bo49)) : Ob) :: bo71
abbrev bo73 : Facts := ((bo52, false) : E × Bool) :: bo60
abbrev bo74 : E := .o2 (.cell 0) (.uf 62 bo47) bo49
abbrev bo75 : E := .o2 .mul bo74 (.il 2)
abbrev bo76 : E := .o2 .tset (.uf 62 bo47) (.o2 .cel bo49 (.o2 .cel (.o2 .mn bo75 (.v 7301)) (.o2 .cel bo53 (.o2 .cel bo50 (.il 0)))))
abbrev bo77 : List Ob := ((.t (.uf 61 bo47) (.uf 61 bo65)) : Ob) :: bo69
abbrev bo78 : List Ob := ((.e (.o2 .ieq (.il 0) bo68)) : Ob) :: bo77
abbrev bo79 : List Ob := ((.e (.o2 .beq (.bl false) bo67)) : Ob) :: bo78
abbrev bo80 : Facts := ((bo53, false) : E × Bool) :: bo59
abbrev bo81 : Facts := ((bo54, false) : E × Bool) :: bo58
abbrev bo82 : E := .o2 .ieq (.o2 (.cell 0) (.v 7302) (.v 2021)) (.il 2)
abbrev bo83 : Facts := ((bo55, false) : E × Bool) :: bo57
abbrev bo84 : Facts := ((bo82, true) : E × Bool) :: bo83
abbrev bo85 : List Ob := ((.t (.o2 (.md .s) (.uf 61 bo47) (.o2 (.cell 1) (.v 7302) (.v 2021))) (.uf 61 bo65)) : Ob) :: bo69
abbrev bo86 : List Ob := ((.t (.uf 62 bo47) (.uf 62 bo65)) : Ob) :: ((.e (.o2 .beq (.bl false) bo67)) : Ob) :: ((.e (.o2 .ieq (.il 0) bo68)) : Ob) :: bo85
abbrev bo87 : E := .o2 .ieq (.o2 (.cell 0) (.v 7302) (.v 2021)) (.il 3)
abbrev bo88 : Facts := ((bo82, false) : E × Bool) :: bo83
abbrev bo89 : Facts := ((bo87, true) : E × Bool) :: bo88
abbrev bo90 : Facts := ((bo54, true) : E × Bool) :: bo89
abbrev bo91 : Facts := ((bo54, false) : E × Bool) :: bo89
abbrev bo92 : List Ob := ((.t (.uf 62 bo47) (.uf 62 bo65)) : Ob) :: bo79
abbrev bo93 : E := .o2 .ieq (.o2 (.cell 0) (.v 7302) (.v 2021)) (.il 4)
abbrev bo94 : Facts := ((bo87, false) : E × Bool) :: bo88
abbrev bo95 : Facts := ((bo93, true) : E × Bool) :: bo94
abbrev bo96 : Facts := ((bo54, true) : E × Bool) :: bo95
abbrev bo97 : Facts := ((bo53, true) : E × Bool) :: bo96
abbrev bo98 : Facts := ((bo52, true) : E × Bool) :: bo97
abbrev bo99 : List Ob := ((.e (.o2 .le (.il 0) bo49)) : Ob) :: ((.e (.o2 .le (.il 0) bo49)) : Ob) :: ((.e (.o2 .le (.il 0) bo49)) : Ob) :: bo92
abbrev bo100 : List Ob := ((.e (.o2 .le bo51 (.il 9223372036854775807))) : Ob) :: bo99
abbrev bo101 : Facts := ((bo52, false) : E × Bool) :: bo97
abbrev bo102 : E := .o2 .sub (.uf 60 bo47) (.o2 (.cell 2) (.v 7302) (.v 2021))
abbrev bo103 : E := .o2 .lt bo102 bo74
abbrev bo104 : Facts := ((bo53, false) : E × Bool) :: bo96
abbrev bo105 : Facts := ((bo54, false) : E × Bool) :: bo95
abbrev bo106 : E := .o2 .ieq (.o2 (.cell 0) (.v 7302) (.v 2021)) (.il 5)
abbrev bo107 : Facts := ((bo93, false) : E × Bool) :: bo94
abbrev bo108 : Facts := ((bo106, true) : E × Bool) :: bo107
abbrev bo109 : Facts := ((bo54, true) : E × Bool) :: bo108
abbrev bo110 : Facts := ((bo53, true) : E × Bool) :: bo109
abbrev bo111 : Facts := ((bo52, true) : E × Bool) :: bo110
abbrev bo112 : Facts := ((bo52, false) : E × Bool) :: bo110
abbrev bo113 : E := .o2 .lt bo51 bo74
abbrev bo114 : Facts := ((bo53, false) : E × Bool) :: bo109
abbrev bo115 : Facts := ((bo54, false) : E × Bool) :: bo108
abbrev bo116 : E := .o2 .ieq (.o2 (.cell 0) (.v 7302) (.v 2021)) (.il 6)
abbrev bo117 : Facts := ((bo106, false) : E × Bool) :: bo107
abbrev bo118 : Facts := ((bo116, true) : E × Bool) :: bo117
abbrev bo119 : E := .o2 .cel (.uf 61 bo47) (.o2 .cel (.uf 62 bo47) (.o2 .cel (.uf 60 bo47) (.o2 .cel (.v 7301) (.il 0))))
abbrev bo120 : List Ob := ((.t (.uf 72 bo119) (.uf 61 bo65)) : Ob) :: bo69
abbrev bo121 : E := .o2 .ieq (.o2 (.cell 0) (.v 7302) (.v 2021)) (.il 7)
abbrev bo122 : Facts := ((bo116, false) : E × Bool) :: bo117
abbrev bo123 : Facts := ((bo121, true) : E × Bool) :: bo122
abbrev bo124 : E := .o2 .ieq (.o2 (.cell 0) (.v 7302) (.v 2021)) (.il 8)
abbrev bo125 : Facts := ((bo121, false) : E × Bool) :: bo122
abbrev bo126 : Facts := ((bo124, true) : E × Bool) :: bo125
abbrev bo127 : E := .o2 .add (.uf 60 bo47) (.o2 .mx (.il 0) (.o2 .mn (.o2 (.cell 2) (.v 7302) (.v 2021)) (.il 1125899906842624)))
abbrev bo128 : List Ob := [(.t (.uf 61 bo47) (.uf 61 bo65)), (.e (.o2 .ieq bo127 (.uf 60 bo65)))]
abbrev bo129 : Facts := ((bo124, false) : E × Bool) :: bo125
abbrev bo130 : Facts := [(bo56, false)]
abbrev bo131 : List Ob := [(.t (.uf 62 bo47) (.uf 65 bo66))]
def bk0L : List (Facts × List Ob) :=
  [(bo61,
    (((.e (.o2 .le bo51 (.il 9223372036854775807))) : Ob) :: bo72)),
   (bo73,
    (((.e (.o2 .le (.il 0) bo49)) : Ob) :: ((.e (.o2 .le (.il 0) bo49)) : Ob) :: ((.e (.o2 .le (.il 0) bo49)) : Ob) :: ((.e (.o2 .le (.il 0) bo49)) : Ob) :: ((.e (.o2 .le (.il 0) bo49)) : Ob) :: ((.e (.o2 .le (.il 0) bo49)) : Ob) :: ((.e (.o2 .le bo75 (.il 9223372036854775807))) : Ob) :: ((.e (.o2 .le (.il (-9223372036854775808)) bo75)) : Ob) :: ((.e (.o2 .le (.il 0) bo49)) : Ob) :: ((.e (.o2 .le (.il 0) bo49)) : Ob) :: ((.e (.o2 .le (.il 0) bo49)) : Ob) :: ((.e (.o2 .le (.il (-9223372036854775808)) bo51)) : Ob) :: ((.e (.o2 .le (.il 0) bo49)) : Ob) :: ((.e (.o2 .le (.il 0) bo49)) : Ob) :: ((.e (.o2 .le (.il 0) bo49)) : Ob) :: ((.t (.o2 .tset bo76 (.o2 .cel bo49 (.o2 .cel (.o2 (.cell 0) bo76 bo49) bo64))) (.uf 62 bo65)) : Ob) :: bo79)),
   (bo80,
    bo72),
   (bo81,
    bo71),
   (bo84,
    bo86),
   (bo90,
    (((.e (.o2 .le (.il 0) bo49)) : Ob) :: ((.e (.o2 .le (.il 0) bo49)) : Ob) :: ((.e (.o2 .le (.il 0) bo49)) : Ob) :: ((.t (.uf 62 bo47) (.uf 62 bo65)) : Ob) :: ((.e (.o2 .beq (.bl false) bo67)) : Ob) :: ((.e (.o2 .ieq bo74 bo68)) : Ob) :: bo77)),
   (bo91,
    bo92),
   (bo98,
    bo100),
   (bo101,
    (((.e (.o2 .le (.il 0) bo49)) : Ob) :: ((.e (.o2 .le (.il 0) bo49)) : Ob) :: ((.e (.o2 .le (.il 0) bo49)) : Ob) :: ((.e (.o2 .le bo102 (.il 9223372036854775807))) : Ob) :: ((.e (.o2 .le (.il (-9223372036854775808)) bo102)) : Ob) :: ((.e (.o2 .le (.il (-9223372036854775808)) bo51)) : Ob) :: ((.e (.o2 .le (.il 0) bo49)) : Ob) :: ((.e (.o2 .le (.il 0) bo49)) : Ob) :: ((.e (.o2 .le (.il 0) bo49)) : Ob) :: ((.t (.uf 62 bo47) (.uf 62 bo65)) : Ob) :: ((.e (.o2 .beq bo103 bo67)) : Ob) :: bo78)),
   (bo104,
    bo99),
   (bo105,
    bo92),
   (bo111,
    bo100),
   (bo112,
    (((.e (.o2 .le (.il 0) bo49)) : Ob) :: ((.e (.o2 .le (.il 0) bo49)) : Ob) :: ((.e (.o2 .le (.il 0) bo49)) : Ob) :: ((.e (.o2 .le (.il (-9223372036854775808)) bo51)) : Ob) :: ((.e (.o2 .le (.il 0) bo49)) : Ob) :: ((.e (.o2 .le (.il 0) bo49)) : Ob) :: ((.e (.o2 .le (.il 0) bo49)) : Ob) :: ((.e (.o2 .le (.il (-9223372036854775808)) bo51)) : Ob) :: ((.e (.o2 .le (.il 0) bo49)) : Ob) :: ((.e (.o2 .le (.il 0) bo49)) : Ob) :: ((.e (.o2 .le (.il 0) bo49)) : Ob) :: ((.t (.uf 62 bo47) (.uf 62 bo65)) : Ob) :: ((.e (.o2 .beq bo113 bo67)) : Ob) :: bo78)),
   (bo114,
    bo99),
   (bo115,
    bo92),
   (bo118,
    (((.t (.uf 61 bo47) (.uf 70 (.o2 .cel (.uf 61 bo47) (.o2 .cel (.uf 62 bo47) (.o2 .cel (.uf 60 bo47) (.o2 .cel (.v 7301) (.o2 .cel (.il 0) (.il 0)))))))) : Ob) :: ((.e (.uf 71 bo119)) : Ob) :: ((.t (.uf 62 bo47) (.uf 62 bo65)) : Ob) :: ((.e (.o2 .beq (.bl false) bo67)) : Ob) :: ((.e (.o2 .ieq (.il 0) bo68)) : Ob) :: bo120)),
   (bo123,
    bo86),
   (bo126,
    (((.e (.o2 .le bo127 (.il 9223372036854775807))) : Ob) :: ((.e (.o2 .le (.il (-9223372036854775808)) bo127)) : Ob) :: ((.t (.uf 62 bo47) (.uf 62 bo65)) : Ob) :: ((.e (.o2 .beq (.bl false) bo67)) : Ob) :: ((.e (.o2 .ieq (.il 0) bo68)) : Ob) :: bo128)),
   (bo129,
    bo92),
   (bo130,
    (((.t (.il 0) (.uf 63 bo66)) : Ob) :: bo131))]
abbrev bo132 : E := .o2 (.cell 0) (.uf 63 bo66) (.v 2021)
abbrev bo133 : E := .o2 (.cell 1) (.uf 63 bo66) (.v 2021)
abbrev bo134 : List Ob := ((.t (.o2 .tset bo62 (.o2 .cel bo63 (.o2 .cel (.o2 (.cell 0) bo62 bo63) bo64))) (.uf 62 bo65)) : Ob) :: ((.e (.o2 .beq (.bl false) bo132)) : Ob) :: ((.e (.o2 .ieq (.il 0) bo133)) : Ob) :: bo70
abbrev bo135 : List Ob := ((.e (.o2 .le (.il 0) bo49)) : Ob) :: ((.e (.o2 .le (.il 0) bo49)) : Ob) :: ((.e (.o2 .le (.il 0) bo49)) : Ob) :: bo134
abbrev bo136 : List Ob := ((.e (.o2 .ieq (.il 0) bo133)) : Ob) :: bo77
abbrev bo137 : List Ob := ((.e (.o2 .beq (.bl false) bo132)) : Ob) :: bo136
abbrev bo138 : List Ob := ((.t (.uf 62 bo47) (.uf 62 bo65)) : Ob) :: ((.e (.o2 .beq (.bl false) bo132)) : Ob) :: ((.e (.o2 .ieq (.il 0) bo133)) : Ob) :: bo85
abbrev bo139 : List Ob := ((.t (.uf 62 bo47) (.uf 62 bo65)) : Ob) :: bo137
abbrev bo140 : List Ob := ((.e (.o2 .le (.il 0) bo49)) : Ob) :: ((.e (.o2 .le (.il 0) bo49)) : Ob) :: ((.e (.o2 .le (.il 0) bo49)) : Ob) :: bo139
abbrev bo141 : List Ob := ((.e (.o2 .le bo51 (.il 9223372036854775807))) : Ob) :: bo140
def bk1L : List (Facts × List Ob) :=
  [(bo61,
    (((.e (.o2 .le bo51 (.il 9223372036854775807))) : Ob) :: bo135)),
   (bo73,
    (((.e (.o2 .le (.il 0) bo49)) : Ob) :: ((.e (.o2 .le (.il 0) bo49)) : Ob) :: ((.e (.o2 .le (.il 0) bo49)) : Ob) :: ((.e (.o2 .le (.il 0) bo49)) : Ob) :: ((.e (.o2 .le (.il 0) bo49)) : Ob) :: ((.e (.o2 .le (.il 0) bo49)) : Ob) :: ((.e (.o2 .le bo75 (.il 9223372036854775807))) : Ob) :: ((.e (.o2 .le (.il (-9223372036854775808)) bo75)) : Ob) :: ((.e (.o2 .le (.il 0) bo49)) : Ob) :: ((.e (.o2 .le (.il 0) bo49)) : Ob) :: ((.e (.o2 .le (.il 0) bo49)) : Ob) :: ((.e (.o2 .le (.il (-9223372036854775808)) bo51)) : Ob) :: ((.e (.o2 .le (.il 0) bo49)) : Ob) :: ((.e (.o2 .le (.il 0) bo49)) : Ob) :: ((.e (.o2 .le (.il 0) bo49)) : Ob) :: ((.t (.o2 .tset bo76 (.o2 .cel bo49 (.o2 .cel (.o2 (.cell 0) bo76 bo49) bo64))) (.uf 62 bo65)) : Ob) :: bo137)),
   (bo80,
    bo135),
   (bo81,
    bo134),
   (bo84,
    bo138),
   (bo90,
    (((.e (.o2 .le (.il 0) bo49)) : Ob) :: ((.e (.o2 .le (.il 0) bo49)) : Ob) :: ((.e (.o2 .le (.il 0) bo49)) : Ob) :: ((.t (.uf 62 bo47) (.uf 62 bo65)) : Ob) :: ((.e (.o2 .beq (.bl false) bo132)) : Ob) :: ((.e (.o2 .ieq bo74 bo133)) : Ob) :: bo77)),
   (bo91,
    bo139),
   (bo98,
    bo141),
   (bo101,
    (((.e (.o2 .le (.il 0) bo49)) : Ob) :: ((.e (.o2 .le (.il 0) bo49)) : Ob) :: ((.e (.o2 .le (.il 0) bo49)) : Ob) :: ((.e (.o2 .le bo102 (.il 9223372036854775807))) : Ob) :: ((.e (.o2 .le (.il (-9223372036854775808)) bo102)) : Ob) :: ((.e (.o2 .le (.il (-9223372036854775808)) bo51)) : Ob) :: ((.e (.o2 .le (.il 0) bo49)) : Ob) :: ((.e (.o2 .le (.il 0) bo49)) : Ob) :: ((.e (.o2 .le (.il 0) bo49)) : Ob) :: ((.t (.uf 62 bo47) (.uf 62 bo65)) : Ob) :: ((.e (.o2 .beq bo103 bo132)) : Ob) :: bo136)),
   (bo104,
    bo140),
   (bo105,
    bo139),
   (bo111,
    bo141),
   (bo112,
    (((.e (.o2 .le (.il 0) bo49)) : Ob) :: ((.e (.o2 .le (.il 0) bo49)) : Ob) :: ((.e (.o2 .le (.il 0) bo49)) : Ob) :: ((.e (.o2 .le (.il (-9223372036854775808)) bo51)) : Ob) :: ((.e (.o2 .le (.il 0) bo49)) : Ob) :: ((.e (.o2 .le (.il 0) bo49)) : Ob) :: ((.e (.o2 .le (.il 0) bo49)) : Ob) :: ((.e (.o2 .le (.il (-9223372036854775808)) bo51)) : Ob) :: ((.e (.o2 .le (.il 0) bo49)) : Ob) :: ((.e (.o2 .le (.il 0) bo49)) : Ob) :: ((.e (.o2 .le (.il 0) bo49)) : Ob) :: ((.t (.uf 62 bo47) (.uf 62 bo65)) : Ob) :: ((.e (.o2 .beq bo113 bo132)) : Ob) :: bo136)),
   (bo114,
    bo140),
   (bo115,
    bo139),
   (bo118,
    (((.t (.uf 61 bo47) (.uf 70 (.o2 .cel (.uf 61 bo47) (.o2 .cel (.uf 62 bo47) (.o2 .cel (.uf 60 bo47) (.o2 .cel (.v 7301) (.o2 .cel (.il 0) (.il 0)))))))) : Ob) :: ((.e (.uf 71 bo119)) : Ob) :: ((.t (.uf 62 bo47) (.uf 62 bo65)) : Ob) :: ((.e (.o2 .beq (.bl false) bo132)) : Ob) :: ((.e (.o2 .ieq (.il 0) bo133)) : Ob) :: bo120)),
   (bo123,
    bo138),
   (bo126,
    (((.e (.o2 .le bo127 (.il 9223372036854775807))) : Ob) :: ((.e (.o2 .le (.il (-9223372036854775808)) bo127)) : Ob) :: ((.t (.uf 62 bo47) (.uf 62 bo65)) : Ob) :: ((.e (.o2 .beq (.bl false) bo132)) : Ob) :: ((.e (.o2 .ieq (.il 0) bo133)) : Ob) :: bo128)),
   (bo129,
    bo139),
   (bo130,
    (((.e (.o2 .le (.v 2021) (.o1 .tlen (.uf 63 bo66)))) : Ob) :: ((.t (.o2 .ttake (.uf 63 bo66) (.v 2021)) (.uf 63 bo66)) : Ob) :: bo131))]
abbrev bo142 : E := .o2 .cel (.v 7310) (.o2 .cel (.v 7311) (.o2 .cel (.v 7312) (.o2 .cel (.il 0) (.il 0))))
def bkFnL : List (Facts × List Ob) :=
  [([],
    [(.e (.o2 .ieq (.il 0) (.uf 60 bo142))), (.t (.il 0) (.uf 61 bo142)), (.t (.il 0) (.uf 62 bo142))])]
abbrev bo143 : E := .o2 .cel (.v 7500) (.o2 .cel (.v 7501) (.o2 .cel (.v 7502) (.o2 .cel (.v 2023) (.il 0))))
abbrev bo144 : E := .o2 (.mf .s) (.uf 68 bo143) (.o2 (.cell 1) (.v 7502) (.v 2023))
abbrev bo145 : E := .o2 .sub (.o2 (.cell 2) (.v 7502) (.v 2023)) (.o2 (.cell 1) (.uf 68 bo143) bo144)
abbrev bo146 : E := .o2 .lt (.o2 .mul (.il 2) (.v 7501)) bo145
abbrev bo147 : E := .o2 .ieq (.o2 (.cell 0) (.v 7502) (.v 2023)) (.il 1)
abbrev bo148 : E := .o2 .le (.il 0) bo144
abbrev bo149 : E := .o2 (.mf .s) (.uf 67 bo143) (.o2 (.cell 1) (.v 7502) (.v 2023))
abbrev bo150 : E := .o2 .le (.il 0) bo149
abbrev bo151 : E := .o2 .lt (.v 2023) (.o1 .tlen (.v 7502))
abbrev bo152 : Facts := [(bo151, true)]
abbrev bo153 : Facts := ((bo150, true) : E × Bool) :: bo152
abbrev bo154 : Facts := ((bo148, true) : E × Bool) :: bo153
abbrev bo155 : Facts := ((bo147, true) : E × Bool) :: bo154
abbrev bo156 : Facts := ((bo146, true) : E × Bool) :: bo155
abbrev bo157 : List Ob := [(.e (.o2 .lt (.v 2023) (.o1 .tlen (.v 7503))))]
abbrev bo158 : List Ob := ((.e (.bl false)) : Ob) :: ((.e (.o2 .le bo145 (.il 9223372036854775807))) : Ob) :: bo157
abbrev bo159 : E := .o2 .ieq (.o2 (.cell 1) (.v 7503) (.v 2023)) (.il 0)
abbrev bo160 : Facts := (((.o2 (.cell 0) (.v 7503) (.v 2023)), false) : E × Bool) :: bo156
abbrev bo161 : E := .o2 (.mp .s) (.uf 67 bo143) (.o2 .cel (.o2 (.cell 1) (.v 7502) (.v 2023)) (.o2 .cel (.v 7500) (.il 0)))
abbrev bo162 : E := .o2 .cel (.v 7500) (.o2 .cel (.v 7501) (.o2 .cel (.v 7502) (.o2 .cel (.o2 .add (.v 2023) (.il 1)) (.il 0))))
abbrev bo163 : List Ob := [(.e (.o2 .ieq (.uf 66 bo143) (.uf 66 bo162)))]
abbrev bo164 : List Ob := ((.t (.o2 (.mp .s) (.uf 68 bo143) (.o2 .cel (.o2 (.cell 1) (.v 7502) (.v 2023)) (.o2 .cel (.uf 66 bo143) (.il 0)))) (.uf 68 bo162)) : Ob) :: bo163
abbrev bo165 : List Ob := ((.e (.o2 .lt (.v 2023) (.o1 .tlen (.v 7503)))) : Ob) :: ((.t bo161 (.uf 67 bo162)) : Ob) :: bo164
abbrev bo166 : Facts := ((bo146, false) : E × Bool) :: bo155
abbrev bo167 : E := .o2 (.cell 1) (.uf 67 bo143) bo149
abbrev bo168 : E := .o2 .mul (.il 2) bo167
abbrev bo169 : List Ob := ((.e (.o2 .le (.il (-9223372036854775808)) bo145)) : Ob) :: bo157
abbrev bo170 : List Ob := ((.e (.bl false)) : Ob) :: ((.e (.o2 .le bo168 (.il 9223372036854775807))) : Ob) :: ((.e (.o2 .le (.il (-9223372036854775808)) bo168)) : Ob) :: bo169
abbrev bo171 : Facts := (((.o2 (.cell 0) (.v 7503) (.v 2023)), false) : E × Bool) :: bo166
abbrev bo172 : List Ob := ((.e (.o2 .lt (.v 2023) (.o1 .tlen (.v 7503)))) : Ob) :: ((.t (.o2 (.mp .s) bo161 (.o2 .cel (.o2 (.cell 1) (.v 7502) (.v 2023)) (.o2 .cel (.o2 .mn bo168 (.v 7501)) (.il 0)))) (.uf 67 bo162)) : Ob) :: bo164
abbrev bo173 : E := .o2 .ieq (.o2 (.cell 0) (.v 7502) (.v 2023)) (.il 2)
abbrev bo174 : Facts := ((bo147, false) : E × Bool) :: bo154
abbrev bo175 : Facts := ((bo173, true) : E × Bool) :: bo174
abbrev bo176 : List Ob := ((.e (.o2 .le bo145 (.il 9223372036854775807))) : Ob) :: bo169
abbrev bo177 : List Ob := ((.e (.bl false)) : Ob) :: bo176
abbrev bo178 : Facts := (((.o2 (.cell 0) (.v 7503) (.v 2023)), false) : E × Bool) :: bo175
abbrev bo179 : List Ob := ((.t (.uf 68 bo143) (.uf 68 bo162)) : Ob) :: bo163
abbrev bo180 : List Ob := ((.e (.o2 .lt (.v 2023) (.o1 .tlen (.v 7503)))) : Ob) :: ((.t (.o2 (.md .s) (.uf 67 bo143) (.o2 (.cell 1) (.v 7502) (.v 2023))) (.uf 67 bo162)) : Ob) :: bo179
abbrev bo181 : List Ob := ((.e (.o2 .le bo145 (.il 9223372036854775807))) : Ob) :: ((.e (.o2 .le (.il (-9223372036854775808)) bo145)) : Ob) :: bo180
abbrev bo182 : E := .o2 .ieq (.o2 (.cell 0) (.v 7502) (.v 2023)) (.il 7)
abbrev bo183 : Facts := ((bo173, false) : E × Bool) :: bo174
abbrev bo184 : Facts := ((bo182, true) : E × Bool) :: bo183
abbrev bo185 : Facts := (((.o2 (.cell 0) (.v 7503) (.v 2023)), false) : E × Bool) :: bo184
abbrev bo186 : E := .o2 .ieq (.o2 (.cell 0) (.v 7502) (.v 2023)) (.il 3)
abbrev bo187 : Facts := ((bo182, false) : E × Bool) :: bo183
abbrev bo188 : Facts := ((bo186, true) : E × Bool) :: bo187
abbrev bo189 : E := .o2 .ieq (.o2 (.cell 1) (.v 7503) (.v 2023)) bo167
abbrev bo190 : Facts := (((.o2 (.cell 0) (.v 7503) (.v 2023)), false) : E × Bool) :: bo188
abbrev bo191 : List Ob := ((.e (.o2 .lt (.v 2023) (.o1 .tlen (.v 7503)))) : Ob) :: ((.t (.uf 67 bo143) (.uf 67 bo162)) : Ob) :: bo179
abbrev bo192 : List Ob := ((.e (.o2 .le (.il (-9223372036854775808)) bo145)) : Ob) :: bo191
abbrev bo193 : List Ob := ((.e (.o2 .le bo145 (.il 9223372036854775807))) : Ob) :: bo192
abbrev bo194 : E := .o2 .ieq (.o2 (.cell 0) (.v 7502) (.v 2023)) (.il 4)
abbrev bo195 : Facts := ((bo186, false) : E × Bool) :: bo187
abbrev bo196 : Facts := ((bo194, true) : E × Bool) :: bo195
abbrev bo197 : Facts := ((bo146, true) : E × Bool) :: bo196
abbrev bo198 : Facts := (((.o2 (.cell 0) (.v 7503) (.v 2023)), false) : E × Bool) :: bo197
abbrev bo199 : List Ob := ((.e (.o2 .le bo145 (.il 9223372036854775807))) : Ob) :: bo191
abbrev bo200 : E := .o2 .sub (.uf 66 bo143) (.o2 (.cell 2) (.v 7502) (.v 2023))
abbrev bo201 : E := .o2 .beq (.o2 (.cell 0) (.v 7503) (.v 2023)) (.o2 .lt bo200 bo167)
abbrev bo202 : Facts := ((bo146, false) : E × Bool) :: bo196
abbrev bo203 : Facts := ((bo201, true) : E × Bool) :: bo202
abbrev bo204 : List Ob := ((.e (.bl false)) : Ob) :: ((.e (.o2 .le bo200 (.il 9223372036854775807))) : Ob) :: ((.e (.o2 .le (.il (-9223372036854775808)) bo200)) : Ob) :: bo169
abbrev bo205 : E := .o2 .ieq (.o2 (.cell 0) (.v 7502) (.v 2023)) (.il 5)
abbrev bo206 : Facts := ((bo194, false) : E × Bool) :: bo195
abbrev bo207 : Facts := ((bo205, true) : E × Bool) :: bo206
abbrev bo208 : Facts := ((bo146, true) : E × Bool) :: bo207
abbrev bo209 : Facts := (((.o2 (.cell 0) (.v 7503) (.v 2023)), false) : E × Bool) :: bo208
abbrev bo210 : E := .o2 .beq (.o2 (.cell 0) (.v 7503) (.v 2023)) (.o2 .lt bo145 bo167)
abbrev bo211 : Facts := ((bo146, false) : E × Bool) :: bo207
abbrev bo212 : Facts := ((bo210, true) : E × Bool) :: bo211
abbrev bo213 : List Ob := ((.e (.bl false)) : Ob) :: ((.e (.o2 .le (.il (-9223372036854775808)) bo145)) : Ob) :: bo169
abbrev bo214 : E := .o2 .ieq (.o2 (.cell 0) (.v 7502) (.v 2023)) (.il 6)
abbrev bo215 : Facts := ((bo205, false) : E × Bool) :: bo206
abbrev bo216 : Facts := ((bo214, true) : E × Bool) :: bo215
abbrev bo217 : E := .o2 .cel (.uf 67 bo143) (.o2 .cel (.uf 68 bo143) (.o2 .cel (.uf 66 bo143) (.o2 .cel (.v 7501) (.il 0))))
abbrev bo218 : List Ob := ((.e (.bl false)) : Ob) :: ((.t (.uf 67 bo143) (.uf 73 (.o2 .cel (.uf 67 bo143) (.o2 .cel (.uf 68 bo143) (.o2 .cel (.uf 66 bo143) (.o2 .cel (.v 7501) (.o2 .cel (.il 0) (.il 0)))))))) : Ob) :: ((.e (.uf 75 bo217)) : Ob) :: bo176
abbrev bo219 : Facts := (((.o2 (.cell 0) (.v 7503) (.v 2023)), false) : E × Bool) :: bo216
abbrev bo220 : List Ob := ((.e (.o2 .lt (.v 2023) (.o1 .tlen (.v 7503)))) : Ob) :: ((.t (.uf 74 bo217) (.uf 67 bo162)) : Ob) :: bo179
abbrev bo221 : E := .o2 .ieq (.o2 (.cell 0) (.v 7502) (.v 2023)) (.il 8)
abbrev bo222 : Facts := ((bo214, false) : E × Bool) :: bo215
abbrev bo223 : Facts := ((bo221, true) : E × Bool) :: bo222
abbrev bo224 : E := .o2 .add (.uf 66 bo143) (.o2 (.cell 2) (.v 7502) (.v 2023))
abbrev bo225 : List Ob := ((.e (.bl false)) : Ob) :: ((.e (.o2 .le bo224 (.il 9223372036854775807))) : Ob) :: ((.e (.o2 .le (.il (-9223372036854775808)) bo224)) : Ob) :: bo176
abbrev bo226 : Facts := (((.o2 (.cell 0) (.v 7503) (.v 2023)), false) : E × Bool) :: bo223
abbrev bo227 : List Ob := [(.e (.o2 .lt (.v 2023) (.o1 .tlen (.v 7503)))), (.t (.uf 67 bo143) (.uf 67 bo162)), (.t (.uf 68 bo143) (.uf 68 bo162)), (.e (.o2 .ieq bo224 (.uf 66 bo162)))]
abbrev bo228 : Facts := ((bo221, false) : E × Bool) :: bo222
abbrev bo229 : Facts := (((.o2 (.cell 0) (.v 7503) (.v 2023)), false) : E × Bool) :: bo228
abbrev bo230 : E := .o2 .sub (.o2 (.cell 2) (.v 7502) (.v 2023)) (.il 0)
abbrev bo231 : E := .o2 .lt (.o2 .mul (.il 2) (.v 7501)) bo230
abbrev bo232 : Facts := ((bo148, false) : E × Bool) :: bo153
abbrev bo233 : Facts := ((bo147, true) : E × Bool) :: bo232
abbrev bo234 : Facts := ((bo231, true) : E × Bool) :: bo233
abbrev bo235 : List Ob := ((.e (.bl false)) : Ob) :: ((.e (.o2 .le bo230 (.il 9223372036854775807))) : Ob) :: bo157
abbrev bo236 : Facts := (((.o2 (.cell 0) (.v 7503) (.v 2023)), false) : E × Bool) :: bo234
abbrev bo237 : Facts := ((bo231, false) : E × Bool) :: bo233
abbrev bo238 : List Ob := ((.e (.o2 .le (.il (-9223372036854775808)) bo230)) : Ob) :: bo157
abbrev bo239 : List Ob := ((.e (.bl false)) : Ob) :: ((.e (.o2 .le bo168 (.il 9223372036854775807))) : Ob) :: ((.e (.o2 .le (.il (-9223372036854775808)) bo168)) : Ob) :: bo238
abbrev bo240 : Facts := (((.o2 (.cell 0) (.v 7503) (.v 2023)), false) : E × Bool) :: bo237
abbrev bo241 : Facts := ((bo147, false) : E × Bool) :: bo232
abbrev bo242 : Facts := ((bo173, true) : E × Bool) :: bo241
abbrev bo243 : List Ob := ((.e (.o2 .le bo230 (.il 9223372036854775807))) : Ob) :: bo238
abbrev bo244 : List Ob := ((.e (.bl false)) : Ob) :: bo243
abbrev bo245 : Facts := (((.o2 (.cell 0) (.v 7503) (.v 2023)), false) : E × Bool) :: bo242
abbrev bo246 : List Ob := ((.e (.o2 .le bo230 (.il 9223372036854775807))) : Ob) :: ((.e (.o2 .le (.il (-9223372036854775808)) bo230)) : Ob) :: bo180
abbrev bo247 : Facts := ((bo173, false) : E × Bool) :: bo241
abbrev bo248 : Facts := ((bo182, true) : E × Bool) :: bo247
abbrev bo249 : Facts := (((.o2 (.cell 0) (.v 7503) (.v 2023)), false) : E × Bool) :: bo248
abbrev bo250 : Facts := ((bo182, false) : E × Bool) :: bo247
abbrev bo251 : Facts := ((bo186, true) : E × Bool) :: bo250
abbrev bo252 : Facts := (((.o2 (.cell 0) (.v 7503) (.v 2023)), false) : E × Bool) :: bo251
abbrev bo253 : List Ob := ((.e (.o2 .le (.il (-9223372036854775808)) bo230)) : Ob) :: bo191
abbrev bo254 : List Ob := ((.e (.o2 .le bo230 (.il 9223372036854775807))) : Ob) :: bo253
abbrev bo255 : Facts := ((bo186, false) : E × Bool) :: bo250
abbrev bo256 : Facts := ((bo194, true) : E × Bool) :: bo255
abbrev bo257 : Facts := ((bo231, true) : E × Bool) :: bo256
abbrev bo258 : Facts := (((.o2 (.cell 0) (.v 7503) (.v 2023)), false) : E × Bool) :: bo257
abbrev bo259 : List Ob := ((.e (.o2 .le bo230 (.il 9223372036854775807))) : Ob) :: bo191
abbrev bo260 : Facts := ((bo231, false) : E × Bool) :: bo256
abbrev bo261 : Facts := ((bo201, true) : E × Bool) :: bo260
abbrev bo262 : List Ob := ((.e (.bl false)) : Ob) :: ((.e (.o2 .le bo200 (.il 9223372036854775807))) : Ob) :: ((.e (.o2 .le (.il (-9223372036854775808)) bo200)) : Ob) :: bo238
abbrev bo263 : Facts := ((bo194, false) : E × Bool) :: bo255
abbrev bo264 : Facts := ((bo205, true) : E × Bool) :: bo263
abbrev bo265 : Facts := ((bo231, true) : E × Bool) :: bo264
abbrev bo266 : Facts := (((.o2 (.cell 0) (.v 7503) (.v 2023)), false) : E × Bool) :: bo265
abbrev bo267 : E := .o2 .beq (.o2 (.cell 0) (.v 7503) (.v 2023)) (.o2 .lt bo230 bo167)
abbrev bo268 : Facts := ((bo231, false) : E × Bool) :: bo264
abbrev bo269 : Facts := ((bo267, true) : E × Bool) :: bo268
abbrev bo270 : List Ob := ((.e (.bl false)) : Ob) :: ((.e (.o2 .le (.il (-9223372036854775808)) bo230)) : Ob) :: bo238
abbrev bo271 : Facts := ((bo205, false) : E × Bool) :: bo263
abbrev bo272 : Facts := ((bo214, true) : E × Bool) :: bo271
abbrev bo273 : List Ob := ((.e (.bl false)) : Ob) :: ((.t (.uf 67 bo143) (.uf 73 (.o2 .cel (.uf 67 bo143) (.o2 .cel (.uf 68 bo143) (.o2 .cel (.uf 66 bo143) (.o2 .cel (.v 7501) (.o2 .cel (.il 0) (.il 0)))))))) : Ob) :: ((.e (.uf 75 bo217)) : Ob) :: bo243
abbrev bo274 : Facts := (((.o2 (.cell 0) (.v 7503) (.v 2023)), false) : E × Bool) :: bo272
abbrev bo275 : Facts := ((bo214, false) : E × Bool) :: bo271
abbrev bo276 : Facts := ((bo221, true) : E × Bool) :: bo275
abbrev bo277 : List Ob := ((.e (.bl false)) : Ob) :: ((.e (.o2 .le bo224 (.il 9223372036854775807))) : Ob) :: ((.e (.o2 .le (.il (-9223372036854775808)) bo224)) : Ob) :: bo243
abbrev bo278 : Facts := (((.o2 (.cell 0) (.v 7503) (.v 2023)), false) : E × Bool) :: bo276
abbrev bo279 : Facts := ((bo221, false) : E × Bool) :: bo275
abbrev bo280 : Facts := (((.o2 (.cell 0) (.v 7503) (.v 2023)), false) : E × Bool) :: bo279
abbrev bo281 : Facts := ((bo150, false) : E × Bool) :: bo152
abbrev bo282 : Facts := ((bo147, true) : E × Bool) :: bo281
abbrev bo283 : List Ob := ((.e (.bl false)) : Ob) :: bo157
abbrev bo284 : Facts := (((.o2 (.cell 0) (.v 7503) (.v 2023)), false) : E × Bool) :: bo282
abbrev bo285 : Facts := ((bo147, false) : E × Bool) :: bo281
abbrev bo286 : Facts := ((bo173, true) : E × Bool) :: bo285
abbrev bo287 : Facts := (((.o2 (.cell 0) (.v 7503) (.v 2023)), false) : E × Bool) :: bo286
abbrev bo288 : Facts := ((bo173, false) : E × Bool) :: bo285
abbrev bo289 : Facts := ((bo182, true) : E × Bool) :: bo288
abbrev bo290 : Facts := (((.o2 (.cell 0) (.v 7503) (.v 2023)), false) : E × Bool) :: bo289
abbrev bo291 : Facts := ((bo182, false) : E × Bool) :: bo288
abbrev bo292 : Facts := ((bo186, true) : E × Bool) :: bo291
abbrev bo293 : Facts := (((.o2 (.cell 0) (.v 7503) (.v 2023)), false) : E × Bool) :: bo292
abbrev bo294 : Facts := ((bo186, false) : E × Bool) :: bo291
abbrev bo295 : Facts := ((bo194, true) : E × Bool) :: bo294
abbrev bo296 : Facts := (((.o2 (.cell 0) (.v 7503) (.v 2023)), false) : E × Bool) :: bo295
abbrev bo297 : Facts := ((bo194, false) : E × Bool) :: bo294
abbrev bo298 : Facts := ((bo205, true) : E × Bool) :: bo297
abbrev bo299 : Facts := (((.o2 (.cell 0) (.v 7503) (.v 2023)), false) : E × Bool) :: bo298
abbrev bo300 : Facts := ((bo205, false) : E × Bool) :: bo297
abbrev bo301 : Facts := ((bo214, true) : E × Bool) :: bo300
abbrev bo302 : List Ob := ((.e (.bl false)) : Ob) :: ((.t (.uf 67 bo143) (.uf 73 (.o2 .cel (.uf 67 bo143) (.o2 .cel (.uf 68 bo143) (.o2 .cel (.uf 66 bo143) (.o2 .cel (.v 7501) (.o2 .cel (.il 0) (.il 0)))))))) : Ob) :: ((.e (.uf 75 bo217)) : Ob) :: bo157
abbrev bo303 : Facts := (((.o2 (.cell 0) (.v 7503) (.v 2023)), false) : E × Bool) :: bo301
abbrev bo304 : Facts := ((bo214, false) : E × Bool) :: bo300
abbrev bo305 : Facts := ((bo221, true) : E × Bool) :: bo304
abbrev bo306 : List Ob := ((.e (.bl false)) : Ob) :: ((.e (.o2 .le bo224 (.il 9223372036854775807))) : Ob) :: ((.e (.o2 .le (.il (-9223372036854775808)) bo224)) : Ob) :: bo157
abbrev bo307 : Facts := (((.o2 (.cell 0) (.v 7503) (.v 2023)), false) : E × Bool) :: bo305
abbrev bo308 : Facts := ((bo221, false) : E × Bool) :: bo304
abbrev bo309 : Facts := (((.o2 (.cell 0) (.v 7503) (.v 2023)), false) : E × Bool) :: bo308
def anL : List (Facts × List Ob) :=
  [(((((.o2 (.cell 0) (.v 7503) (.v 2023)), true) : E × Bool) :: bo156),
    bo158),
   ((((bo159, true) : E × Bool) :: bo160),
    (((.e (.o2 .le bo145 (.il 9223372036854775807))) : Ob) :: bo165)),
   ((((bo159, false) : E × Bool) :: bo160),
    bo158),
   (((((.o2 (.cell 0) (.v 7503) (.v 2023)), true) : E × Bool) :: bo166),
    bo170),
   ((((bo159, true) : E × Bool) :: bo171),
    (((.e (.o2 .le bo168 (.il 9223372036854775807))) : Ob) :: ((.e (.o2 .le (.il (-9223372036854775808)) bo168)) : Ob) :: ((.e (.o2 .le (.il (-9223372036854775808)) bo145)) : Ob) :: bo172)),
   ((((bo159, false) : E × Bool) :: bo171),
    bo170),
   (((((.o2 (.cell 0) (.v 7503) (.v 2023)), true) : E × Bool) :: bo175),
    bo177),
   ((((bo159, true) : E × Bool) :: bo178),
    bo181),
   ((((bo159, false) : E × Bool) :: bo178),
    bo177),
   (((((.o2 (.cell 0) (.v 7503) (.v 2023)), true) : E × Bool) :: bo184),
    bo177),
   ((((bo159, true) : E × Bool) :: bo185),
    bo181),
   ((((bo159, false) : E × Bool) :: bo185),
    bo177),
   (((((.o2 (.cell 0) (.v 7503) (.v 2023)), true) : E × Bool) :: bo188),
    bo177),
   ((((bo189, true) : E × Bool) :: bo190),
    bo193),
   ((((bo189, false) : E × Bool) :: bo190),
    bo177),
   (((((.o2 (.cell 0) (.v 7503) (.v 2023)), true) : E × Bool) :: bo197),
    bo158),
   ((((bo159, true) : E × Bool) :: bo198),
    bo199),
   ((((bo159, false) : E × Bool) :: bo198),
    bo158),
   ((((bo159, true) : E × Bool) :: bo203),
    (((.e (.o2 .le bo200 (.il 9223372036854775807))) : Ob) :: ((.e (.o2 .le (.il (-9223372036854775808)) bo200)) : Ob) :: bo192)),
   ((((bo159, false) : E × Bool) :: bo203),
    bo204),
   ((((bo201, false) : E × Bool) :: bo202),
    bo204),
   (((((.o2 (.cell 0) (.v 7503) (.v 2023)), true) : E × Bool) :: bo208),
    bo158),
   ((((bo159, true) : E × Bool) :: bo209),
    bo199),
   ((((bo159, false) : E × Bool) :: bo209),
    bo158),
   ((((bo159, true) : E × Bool) :: bo212),
    (((.e (.o2 .le (.il (-9223372036854775808)) bo145)) : Ob) :: bo192)),
   ((((bo159, false) : E × Bool) :: bo212),
    bo213),
   ((((bo210, false) : E × Bool) :: bo211),
    bo213),
   (((((.o2 (.cell 0) (.v 7503) (.v 2023)), true) : E × Bool) :: bo216),
    bo218),
   ((((bo159, true) : E × Bool) :: bo219),
    (((.t (.uf 67 bo143) (.uf 73 (.o2 .cel (.uf 67 bo143) (.o2 .cel (.uf 68 bo143) (.o2 .cel (.uf 66 bo143) (.o2 .cel (.v 7501) (.o2 .cel (.il 0) (.il 0)))))))) : Ob) :: ((.e (.uf 75 bo217)) : Ob) :: ((.e (.o2 .le bo145 (.il 9223372036854775807))) : Ob) :: ((.e (.o2 .le (.il (-9223372036854775808)) bo145)) : Ob) :: bo220)),
   ((((bo159, false) : E × Bool) :: bo219),
    bo218),
   (((((.o2 (.cell 0) (.v 7503) (.v 2023)), true) : E × Bool) :: bo223),
    bo225),
   ((((bo159, true) : E × Bool) :: bo226),
    (((.e (.o2 .le bo224 (.il 9223372036854775807))) : Ob) :: ((.e (.o2 .le (.il (-9223372036854775808)) bo224)) : Ob) :: ((.e (.o2 .le bo145 (.il 9223372036854775807))) : Ob) :: ((.e (.o2 .le (.il (-9223372036854775808)) bo145)) : Ob) :: bo227)),
   ((((bo159, false) : E × Bool) :: bo226),
    bo225),
   (((((.o2 (.cell 0) (.v 7503) (.v 2023)), true) : E × Bool) :: bo228),
    bo177),
   ((((bo159, true) : E × Bool) :: bo229),
    bo193),
   ((((bo159, false) : E × Bool) :: bo229),
    bo177),
   (((((.o2 (.cell 0) (.v 7503) (.v 2023)), true) : E × Bool) :: bo234),
    bo235),
   ((((bo159, true) : E × Bool) :: bo236),
    (((.e (.o2 .le bo230 (.il 9223372036854775807))) : Ob) :: bo165)),
   ((((bo159, false) : E × Bool) :: bo236),
    bo235),
   (((((.o2 (.cell 0) (.v 7503) (.v 2023)), true) : E × Bool) :: bo237),
    bo239),
   ((((bo159, true) : E × Bool) :: bo240),
    (((.e (.o2 .le bo168 (.il 9223372036854775807))) : Ob) :: ((.e (.o2 .le (.il (-9223372036854775808)) bo168)) : Ob) :: ((.e (.o2 .le (.il (-9223372036854775808)) bo230)) : Ob) :: bo172)),
   ((((bo159, false) : E × Bool) :: bo240),
    bo239),
   (((((.o2 (.cell 0) (.v 7503) (.v 2023)), true) : E × Bool) :: bo242),
    bo244),
   ((((bo159, true) : E × Bool) :: bo245),
    bo246),
   ((((bo159, false) : E × Bool) :: bo245),
    bo244),
   (((((.o2 (.cell 0) (.v 7503) (.v 2023)), true) : E × Bool) :: bo248),
    bo244),
   ((((bo159, true) : E × Bool) :: bo249),
    bo246),
   ((((bo159, false) : E × Bool) :: bo249),
    bo244),
   (((((.o2 (.cell 0) (.v 7503) (.v 2023)), true) : E × Bool) :: bo251),
    bo244),
   ((((bo189, true) : E × Bool) :: bo252),
    bo254),
   ((((bo189, false) : E × Bool) :: bo252),
    bo244),
   (((((.o2 (.cell 0) (.v 7503) (.v 2023)), true) : E × Bool) :: bo257),
    bo235),
   ((((bo159, true) : E × Bool) :: bo258),
    bo259),
   ((((bo159, false) : E × Bool) :: bo258),
    bo235),
   ((((bo159, true) : E × Bool) :: bo261),
    (((.e (.o2 .le bo200 (.il 9223372036854775807))) : Ob) :: ((.e (.o2 .le (.il (-9223372036854775808)) bo200)) : Ob) :: bo253)),
   ((((bo159, false) : E × Bool) :: bo261),
    bo262),
   ((((bo201, false) : E × Bool) :: bo260),
    bo262),
   (((((.o2 (.cell 0) (.v 7503) (.v 2023)), true) : E × Bool) :: bo265),
    bo235),
   ((((bo159, true) : E × Bool) :: bo266),
    bo259),
   ((((bo159, false) : E × Bool) :: bo266),
    bo235),
   ((((bo159, true) : E × Bool) :: bo269),
    (((.e (.o2 .le (.il (-9223372036854775808)) bo230)) : Ob) :: bo253)),
   ((((bo159, false) : E × Bool) :: bo269),
    bo270),
   ((((bo267, false) : E × Bool) :: bo268),
    bo270),
   (((((.o2 (.cell 0) (.v 7503) (.v 2023)), true) : E × Bool) :: bo272),
    bo273),
   ((((bo159, true) : E × Bool) :: bo274),
    (((.t (.uf 67 bo143) (.uf 73 (.o2 .cel (.uf 67 bo143) (.o2 .cel (.uf 68 bo143) (.o2 .cel (.uf 66 bo143) (.o2 .cel (.v 7501) (.o2 .cel (.il 0) (.il 0)))))))) : Ob) :: ((.e (.uf 75 bo217)) : Ob) :: ((.e (.o2 .le bo230 (.il 9223372036854775807))) : Ob) :: ((.e (.o2 .le (.il (-9223372036854775808)) bo230)) : Ob) :: bo220)),
   ((((bo159, false) : E × Bool) :: bo274),
    bo273),
   (((((.o2 (.cell 0) (.v 7503) (.v 2023)), true) : E × Bool) :: bo276),
    bo277),
   ((((bo159, true) : E × Bool) :: bo278),
    (((.e (.o2 .le bo224 (.il 9223372036854775807))) : Ob) :: ((.e (.o2 .le (.il (-9223372036854775808)) bo224)) : Ob) :: ((.e (.o2 .le bo230 (.il 9223372036854775807))) : Ob) :: ((.e (.o2 .le (.il (-9223372036854775808)) bo230)) : Ob) :: bo227)),
   ((((bo159, false) : E × Bool) :: bo278),
    bo277),
   (((((.o2 (.cell 0) (.v 7503) (.v 2023)), true) : E × Bool) :: bo279),
    bo244),
   ((((bo159, true) : E × Bool) :: bo280),
    bo254),
   ((((bo159, false) : E × Bool) :: bo280),
    bo244),
   (((((.o2 (.cell 0) (.v 7503) (.v 2023)), true) : E × Bool) :: bo282),
    bo283),
   ((((bo159, true) : E × Bool) :: bo284),
    bo165),
   ((((bo159, false) : E × Bool) :: bo284),
    bo283),
   (((((.o2 (.cell 0) (.v 7503) (.v 2023)), true) : E × Bool) :: bo286),
    bo283),
   ((((bo159, true) : E × Bool) :: bo287),
    bo180),
   ((((bo159, false) : E × Bool) :: bo287),
    bo283),
   (((((.o2 (.cell 0) (.v 7503) (.v 2023)), true) : E × Bool) :: bo289),
    bo283),
   ((((bo159, true) : E × Bool) :: bo290),
    bo180),
   ((((bo159, false) : E × Bool) :: bo290),
    bo283),
   (((((.o2 (.cell 0) (.v 7503) (.v 2023)), true) : E × Bool) :: bo292),
    bo283),
   ((((bo159, true) : E × Bool) :: bo293),
    bo191),
   ((((bo159, false) : E × Bool) :: bo293),
    bo283),
   (((((.o2 (.cell 0) (.v 7503) (.v 2023)), true) : E × Bool) :: bo295),
    bo283),
   ((((bo159, true) : E × Bool) :: bo296),
    bo191),
   ((((bo159, false) : E × Bool) :: bo296),
    bo283),
   (((((.o2 (.cell 0) (.v 7503) (.v 2023)), true) : E × Bool) :: bo298),
    bo283),
   ((((bo159, true) : E × Bool) :: bo299),
    bo191),
   ((((bo159, false) : E × Bool) :: bo299),
    bo283),
   (((((.o2 (.cell 0) (.v 7503) (.v 2023)), true) : E × Bool) :: bo301),
    bo302),
   ((((bo159, true) : E × Bool) :: bo303),
    (((.t (.uf 67 bo143) (.uf 73 (.o2 .cel (.uf 67 bo143) (.o2 .cel (.uf 68 bo143) (.o2 .cel (.uf 66 bo143) (.o2 .cel (.v 7501) (.o2 .cel (.il 0) (.il 0)))))))) : Ob) :: ((.e (.uf 75 bo217)) : Ob) :: bo220)),
   ((((bo159, false) : E × Bool) :: bo303),
    bo302),
   (((((.o2 (.cell 0) (.v 7503) (.v 2023)), true) : E × Bool) :: bo305),
    bo306),
   ((((bo159, true) : E × Bool) :: bo307),
    (((.e (.o2 .le bo224 (.il 9223372036854775807))) : Ob) :: ((.e (.o2 .le (.il (-9223372036854775808)) bo224)) : Ob) :: bo227)),
   ((((bo159, false) : E × Bool) :: bo307),
    bo306),
   (((((.o2 (.cell 0) (.v 7503) (.v 2023)), true) : E × Bool) :: bo308),
    bo283),
   ((((bo159, true) : E × Bool) :: bo309),
    bo191),
   ((((bo159, false) : E × Bool) :: bo309),
    bo283),
   ([(bo151, false)],
    [])]
end Go.Proofs.Ytagpchabkplggaa.sxBackoff

namespace Go.Proofs.Ytagpchabkplggaa.sxBackoff
open Go.Sx Go.RowKit
set_option linter.unusedVariables false
set_option linter.unusedSimpArgs false
set_option maxRecDepth 100000

/-- One of some things that stand as one. -/
def ar (d : Dv) (k : Nat) : Dv := cc (row d 0) k
theorem ar_0 {a b : Dv} : ar (O2.den .cel a b) 0 = a := id rfl
theorem ar_1 {a b c : Dv} : ar (O2.den .cel a (O2.den .cel b c)) 1 = b := id rfl
theorem ar_2 {a b c d : Dv} : ar (O2.den .cel a (O2.den .cel b (O2.den .cel c d))) 2 = c := id rfl
theorem ar_3 {a b c d e : Dv} : ar (O2.den .cel a (O2.den .cel b (O2.den .cel c (O2.den .cel d e)))) 3 = d := id rfl
theorem ar_4 {a b c d e f : Dv} : ar (O2.den .cel a (O2.den .cel b (O2.den .cel c (O2.den .cel d (O2.den .cel e f))))) 4 = e := id rfl
theorem d_mf {env : Env} {q : KQ} {a b : E} : (E.o2 (.mf q) a b).den env = .i (mfindI q (b.den env) (a.den env).T) := id rfl
theorem dI_mf {env : Env} {q : KQ} {a b : E} : ((E.o2 (.mf q) a b).den env).I = mfindI q (b.den env) (a.den env).T := id rfl
theorem d_mul {env : Env} {a b : E} : (E.o2 .mul a b).den env = .i ((a.den env).I * (b.den env).I) := id rfl
theorem d_mn {env : Env} {a b : E} : (E.o2 .mn a b).den env = .i (if (b.den env).I < (a.den env).I then (b.den env).I else (a.den env).I) := id rfl
theorem dT_mp {env : Env} {q : KQ} {a b : E} : ((E.o2 (.mp q) a b).den env).T = mput q (a.den env).T (b.den env).row := id rfl
theorem dT_md {env : Env} {q : KQ} {a b : E} : ((E.o2 (.md q) a b).den env).T = mdel q (a.den env).T (b.den env) := id rfl
theorem dT_tset {env : Env} {a b : E} : ((E.o2 .tset a b).den env).T = (a.den env).T.set ((b.den env).row.headD (.i 0)).I.toNat (b.den env).row.tail := id rfl
theorem d_tset {env : Env} {a b : E} : (E.o2 .tset a b).den env = .t ((a.den env).T.set ((b.den env).row.headD (.i 0)).I.toNat (b.den env).row.tail) := id rfl
theorem d_tcat {env : Env} {a b : E} : (E.o2 .tcat a b).den env = .t ((a.den env).T ++ (b.den env).T) := id rfl
theorem row_cel {a b : Dv} : (O2.den .cel a b).row = a :: b.row := id rfl
theorem row_i {z : Int} : (Dv.i z).row = [] := id rfl

/-! ### guards -/
def most (z : Int) : Bool := decide (2147483647 < z)
def B1 (d : Dv) (i : Nat) : Bool := most ((cc (row d i) 1).S.size : Int)
def okOp (l : Row) : Bool := decide (1 ≤ rI l 0) && decide (rI l 0 ≤ 8) && decide (((cc l 1).S.size : Int) ≤ 40) && decide (-9007199254740992 ≤ rI l 2) && decide (rI l 2 ≤ 9007199254740992) && (!(rI l 0 == 8) || (decide (0 ≤ rI l 2) && decide (rI l 2 ≤ 1125899906842624)))
def B3 (d : Dv) (i : Nat) : Bool := !okOp (row d i)
def good (ops : Dv) : Bool := !anyB (B3 ops) ops.T.length
theorem good_op {ops : Dv} (h : good ops = true) {n : Nat} (hn : n < ops.T.length) : OpOk (row ops n) := by
  unfold good at h
  have h1 : anyB (B3 ops) ops.T.length = false := by simpa using h
  have h2 := anyB_false h1 n hn
  unfold B3 okOp at h2
  simp only [Bool.not_eq_false', Bool.and_eq_true, Bool.or_eq_true, Bool.not_eq_true', decide_eq_true_eq, beq_eq_false_iff_ne, ne_eq] at h2
  exact ⟨⟨h2.1.1.2, h2.1.2⟩, fun h8 => h2.2.resolve_left fun hne => hne h8⟩

/-! ### the states -/
def stN (i : Dv) (m : Int) (ops : Dv) : Nat → BS
  | 0 => ⟨0, [], [], []⟩
  | n + 1 => st1 i m (stN i m ops n) (row ops n)
def answers (i : Dv) (m : Int) (ops : Dv) : List Row := (List.range ops.T.length).map fun n => an1 m (stN i m ops n) (row ops n)
theorem inv_N {i : Dv} {m : Int} (hi : 0 ≤ i.I ∧ i.I ≤ 9007199254740992) (hm : 0 ≤ m ∧ m ≤ 9007199254740992) {ops : Dv} (hg : good ops = true) : ∀ n, n ≤ ops.T.length → Inv n (stN i m ops n)
  | 0, _ => ⟨⟨Int.le_refl _, by simp [stN]⟩, fun r h => (by cases h), List.Pairwise.nil, List.Pairwise.nil, fun r h => (by cases h), List.Pairwise.nil⟩
  | n + 1, h => (inv_N hi hm hg n (by omega)).st hi hm (good_op hg (by omega))
theorem answers_at {i : Dv} {m : Int} {ops : Dv} {n : Nat} (hn : n < ops.T.length) : row (.t (answers i m ops)) n = an1 m (stN i m ops n) (row ops n) := by
  show ((answers i m ops)[n]?).getD [] = _
  unfold answers
  rw [List.getElem?_map, List.getElem?_range hn]; rfl
theorem answers_len {i : Dv} {m : Int} {ops : Dv} : (answers i m ops).length = ops.T.length := by unfold answers; simp

/-! ### collections -/
def expM (E : Dv) (now max : Int) (r : Row) : Bool := expd max now (rI (row E (rI r 1).toNat) 2)
structure GoodM (M : List Row) (E : Dv) (now max : Int) : Prop where
  keys : Keys .s M
  rows : ∀ r ∈ M, 0 ≤ rI r 1 ∧ ∃ w l, row E (rI r 1).toNat = [w, .b true, .i l] ∧ 0 ≤ l ∧ l ≤ 1152921504606846976
  now : 0 ≤ now ∧ now ≤ 1152921504606846976
  max : 0 ≤ max ∧ max ≤ 9007199254740992
def last (L : List Row) (k : Dv) : Int := match mget .s L k with | some x => rI x 1 | none => 0
def expW (L : List Row) (now max : Int) (r : Row) : Bool := expd max now (last L (hd r))
structure GoodW (W L : List Row) (now max : Int) : Prop where
  keys : Keys .s W
  rows : ∀ r ∈ L, 0 ≤ rI r 1 ∧ rI r 1 ≤ 1152921504606846976
  now : 0 ≤ now ∧ now ≤ 1152921504606846976
  max : 0 ≤ max ∧ max ≤ 9007199254740992
/-- As the reference has it. -/
def pickW (r : Row) : Row := [cc r 4, cc r 2]
noncomputable def dec (p : Prop) : Bool := @decide p (Classical.propDecidable p)
theorem dec_iff {p : Prop} : dec p = true ↔ p := by unfold dec; simp
def vis (d : Dv) : List Dv := d.T.map hd
theorem vis_D (l : List Dv) : vis (LoopY.visD l) = l := by
  unfold vis
  rw [LoopY.visD_T, List.map_map]
  exact List.map_id' _
def S (d : Dv) : BS := stN (ar d 0) (ar d 1).I (ar d 2) (ar d 3).I.toNat
/-! ### FnBackoffRuns: what is played -/
def nN (oth : Bool) : Nat := if oth = true then 6 else 3
def gap (d : Dv) (i : Nat) : Int := rI (row d i) 0
def B5 (d : Dv) (i : Nat) : Bool := decide (gap d i < 0) || decide (35184372088832 < gap d i)
def sumG (d : Dv) : Nat → Int
  | 0 => 0
  | i + 1 => sumG d i + gap d i
def wtN (d : Dv) (a m : Int) : Nat → Int
  | 0 => 0
  | i + 1 => if i = 0 ∨ 2 * m < gap d i then a else if m < 2 * wtN d a m i then m else 2 * wtN d a m i
def oneS : Dv := .s ⟨#[111, 110, 101]⟩
def othS : Dv := .s ⟨#[111, 116, 104, 101, 114]⟩
def nosS : Dv := .s ⟨#[]⟩
def chunk (d : Dv) (oth : Bool) (i : Nat) : List Row :=
  [[.i 8, nosS, .i (gap d i)], [.i 1, oneS, .i (sumG d i + gap d i)], [.i 3, oneS, .i 0]] ++
  (if oth = true then [[.i 1, othS, .i (sumG d i + gap d i)], [.i 6, nosS, .i 0], [.i 2, othS, .i 0]] else [])
def opsT (d : Dv) (oth : Bool) : List Row := (List.range d.T.length).flatMap (chunk d oth)
def atT (d : Dv) (oth : Bool) : List Row := (List.range d.T.length).map fun i => [.i ((nN oth * i + 2 : Nat) : Int)]
def wantT (d : Dv) (a m : Int) : List Row := (List.range d.T.length).map fun i => [.i (wtN d a m (i + 1))]
def Says (at_ got want : List Row) : Prop := ∀ i, i < at_.length → ∃ k : Nat, row (.t at_) i = [.i (k : Int)] ∧ k < got.length ∧ rI (row (.t got) k) 1 = rI (row (.t want) i) 0
noncomputable def UF (c : Nat) (d : Dv) : Dv :=
  match c with
  | 1 => .b (anyB (B1 (ar d 0)) (ar d 0).T.length)
  | 2 => .i (stop (B1 (ar d 0)) (ar d 0).T.length)
  | 3 => .b (anyB (B3 (ar d 0)) (ar d 0).T.length)
  | 4 => .i (stop (B3 (ar d 0)) (ar d 0).T.length)
  | 60 => .i (S d).T
  | 61 => .t ((S d).A.map (pick2 1))
  | 62 => .t (S d).E
  | 63 => .t (answers (ar d 0) (ar d 1).I (ar d 2))
  | 64 => .b (good (ar d 2))
  | 65 => .t (stN (ar d 0) (ar d 1).I (ar d 2) (ar d 2).T.length).E
  | 66 => .i (S d).T
  | 67 => .t ((S d).A.map pickW)
  | 68 => .t (S d).L
  | 70 => .t (cur .s (ar d 0).T (expM (ar d 1) (ar d 2).I (ar d 3).I) (vis (ar d 4)))
  | 71 => .b (dec (GoodM (ar d 0).T (ar d 1) (ar d 2).I (ar d 3).I))
  | 72 => .t ((ar d 0).T.filter fun r => !(expM (ar d 1) (ar d 2).I (ar d 3).I r))
  | 73 => .t (cur .s (ar d 0).T (expW (ar d 1).T (ar d 2).I (ar d 3).I) (vis (ar d 4)))
  | 74 => .t ((ar d 0).T.filter fun r => !(expW (ar d 1).T (ar d 2).I (ar d 3).I r))
  | 75 => .b (dec (GoodW (ar d 0).T (ar d 1).T (ar d 2).I (ar d 3).I))
  | 76 => .b (dec (good (ar d 2) = true ∧ (ar d 3).T = answers (ar d 0) (ar d 1).I (ar d 2)))
  | 80 => .i ((nN (ar d 3).B * (ar d 4).I.toNat : Nat) : Int)
  | 81 => .t (opsT (ar d 0) (ar d 3).B)
  | 82 => .t (atT (ar d 0) (ar d 3).B)
  | 83 => .t (wantT (ar d 0) (ar d 1).I (ar d 2).I)
  | 84 => .b (anyB (B5 (ar d 0)) (ar d 0).T.length)
  | 85 => .i (stop (B5 (ar d 0)) (ar d 0).T.length)
  | 86 => .i (sumG (ar d 0) (ar d 4).I.toNat)
  | 87 => .i (wtN (ar d 0) (ar d 1).I (ar d 2).I (ar d 4).I.toNat)
  | 88 => .b (dec (Says (ar d 0).T (ar d 1).T (ar d 2).T))
  | _ => .i 0
section
variable (d : Dv)
theorem UF_1 : UF 1 d = .b (anyB (B1 (ar d 0)) (ar d 0).T.length) := id rfl
theorem UF_2 : UF 2 d = .i (stop (B1 (ar d 0)) (ar d 0).T.length) := id rfl
theorem UF_3 : UF 3 d = .b (anyB (B3 (ar d 0)) (ar d 0).T.length) := id rfl
theorem UF_4 : UF 4 d = .i (stop (B3 (ar d 0)) (ar d 0).T.length) := id rfl
theorem UF_60 : UF 60 d = .i (S d).T := id rfl
theorem UF_61 : UF 61 d = .t ((S d).A.map (pick2 1)) := id rfl
theorem UF_62 : UF 62 d = .t (S d).E := id rfl
theorem UF_63 : UF 63 d = .t (answers (ar d 0) (ar d 1).I (ar d 2)) := id rfl
theorem UF_64 : UF 64 d = .b (good (ar d 2)) := id rfl
theorem UF_65 : UF 65 d = .t (stN (ar d 0) (ar d 1).I (ar d 2) (ar d 2).T.length).E := id rfl
theorem UF_66 : UF 66 d = .i (S d).T := id rfl
theorem UF_67 : UF 67 d = .t ((S d).A.map pickW) := id rfl
theorem UF_68 : UF 68 d = .t (S d).L := id rfl
theorem UF_70 : UF 70 d = .t (cur .s (ar d 0).T (expM (ar d 1) (ar d 2).I (ar d 3).I) (vis (ar d 4))) := id rfl
theorem UF_71 : UF 71 d = .b (dec (GoodM (ar d 0).T (ar d 1) (ar d 2).I (ar d 3).I)) := id rfl
theorem UF_72 : UF 72 d = .t ((ar d 0).T.filter fun r => !(expM (ar d 1) (ar d 2).I (ar d 3).I r)) := id rfl
theorem UF_73 : UF 73 d = .t (cur .s (ar d 0).T (expW (ar d 1).T (ar d 2).I (ar d 3).I) (vis (ar d 4))) := id rfl
theorem UF_74 : UF 74 d = .t ((ar d 0).T.filter fun r => !(expW (ar d 1).T (ar d 2).I (ar d 3).I r)) := id rfl
theorem UF_75 : UF 75 d = .b (dec (GoodW (ar d 0).T (ar d 1).T (ar d 2).I (ar d 3).I)) := id rfl
theorem UF_80 : UF 80 d = .i ((nN (ar d 3).B * (ar d 4).I.toNat : Nat) : Int) := id rfl
theorem UF_81 : UF 81 d = .t (opsT (ar d 0) (ar d 3).B) := id rfl
theorem UF_82 : UF 82 d = .t (atT (ar d 0) (ar d 3).B) := id rfl
theorem UF_83 : UF 83 d = .t (wantT (ar d 0) (ar d 1).I (ar d 2).I) := id rfl
theorem UF_84 : UF 84 d = .b (anyB (B5 (ar d 0)) (ar d 0).T.length) := id rfl
theorem UF_85 : UF 85 d = .i (stop (B5 (ar d 0)) (ar d 0).T.length) := id rfl
theorem UF_86 : UF 86 d = .i (sumG (ar d 0) (ar d 4).I.toNat) := id rfl
theorem UF_87 : UF 87 d = .i (wtN (ar d 0) (ar d 1).I (ar d 2).I (ar d 4).I.toNat) := id rfl
theorem UF_88 : UF 88 d = .b (dec (Says (ar d 0).T (ar d 1).T (ar d 2).T)) := id rfl
theorem UF_76 : UF 76 d = .b (dec (good (ar d 2) = true ∧ (ar d 3).T = answers (ar d 0) (ar d 1).I (ar d 2))) := id rfl
end
theorem S_pk {a b c n : Dv} {z : Dv} : S (O2.den .cel a (O2.den .cel b (O2.den .cel c (O2.den .cel n z)))) = stN a b.I c n.I.toNat := id rfl

/-! ### a row that is looked for -/
theorem row_mf {q : KQ} {l : List Row} {k : Dv} {r : Row} (h : mget q l k = some r) : row (.t l) (mfindI q k l).toNat = r := by
  obtain ⟨j, h1, h2⟩ := mget_some.1 h
  unfold mfindI
  rw [h1]
  show (l[((j : Nat) : Int).toNat]?).getD [] = r
  rw [Int.toNat_natCast, h2]; rfl
theorem mf_nn {q : KQ} {l : List Row} {k : Dv} : 0 ≤ mfindI q k l ↔ ∃ r, mget q l k = some r := by
  unfold mfindI
  cases h : mfind q k l with
  | none => simp [mget_none.2 h]
  | some j =>
    obtain ⟨r, h1, _⟩ := mfind_some h
    simp only [Int.natCast_nonneg, true_iff]
    exact ⟨r, mget_some.2 ⟨j, h, h1⟩⟩
theorem mf_none {q : KQ} {l : List Row} {k : Dv} : ¬ 0 ≤ mfindI q k l ↔ mget q l k = none := by
  rw [mf_nn]
  cases mget q l k <;> simp
end Go.Proofs.Ytagpchabkplggaa.sxBackoff

namespace Go.Proofs.Ytagpchabkplggaa.sxBackoff
open Go.Sx Go.RowKit
set_option linter.unusedVariables false
set_option linter.unusedSimpArgs false
set_option maxRecDepth 100000
set_option maxHeartbeats 4000000

theorem cast_lt {a b : Nat} : ((a : Int) < (b : Int)) ↔ a < b := Int.ofNat_lt
theorem cast_le {a b : Nat} : ((a : Int) ≤ (b : Int)) ↔ a ≤ b := Int.ofNat_le
section
variable {o : Env} {u : Nat → Value} {i : Nat}
theorem fits22_all (hu : o.uf = UF) (hi : i ≤ stop (B1 (o.v 7000)) (o.v 7000).T.length) (hn : ((o.v 7000).T.length : Int) ≤ 9223372036854775807) : AllL (fits22.env o u i) fits22L := by
  have h1 := @stop_yes (B1 (o.v 7000)) (o.v 7000).T.length i hi
  have h2 := @stop_no (B1 (o.v 7000)) (o.v 7000).T.length i hi
  have h3 := @stop_end (B1 (o.v 7000)) (o.v 7000).T.length i hi
  simp only [B1] at h1 h2
  simp only [fits22L, allL_cons, allL_nil, and_true]
  and_intros
  all_goals intro h
  all_goals simp only [hold_cons_iff, hold_nil_iff, allT_cons, allT_nil, ob_e, ob_t, dB_lt, dB_le, dB_ieq, dB_seq, dB_not, dI_il, dI_add, dI_sub, dI_size, dI_tlen, d_v, d_uf, d_cel, d_cell, d_il, ar_0, LoopY.env, fits22, guardT, if_true, if_false, Nat.reduceEqDiff, I_i, B_b, T_t, Int.toNat_natCast, most, decide_eq_true_eq, decide_eq_false_iff_not, and_true, true_and, Bool.not_eq_true', cast_lt, cast_le, hu, UF_1, UF_2, anyB] at h h1 h2 h3 ⊢
  all_goals grind

theorem boGood_all (hu : o.uf = UF) (hi : i ≤ stop (B3 (o.v 7001)) (o.v 7001).T.length) (hn : ((o.v 7001).T.length : Int) ≤ 9223372036854775807) : AllL (boGood.env o u i) boGoodL := by
  have h1 := @stop_yes (B3 (o.v 7001)) (o.v 7001).T.length i hi
  have h2 := @stop_no (B3 (o.v 7001)) (o.v 7001).T.length i hi
  have h3 := @stop_end (B3 (o.v 7001)) (o.v 7001).T.length i hi
  simp only [B3, okOp] at h1 h2
  simp only [boGoodL, allL_cons, allL_nil, and_true]
  and_intros
  all_goals intro h
  all_goals simp only [hold_cons_iff, hold_nil_iff, allT_cons, allT_nil, ob_e, ob_t, dB_lt, dB_le, dB_ieq, dB_seq, dB_not, dI_il, dI_add, dI_sub, dI_size, dI_tlen, d_v, d_uf, d_cel, d_cell, d_il, ar_0, LoopY.env, boGood, guardT, if_true, if_false, Nat.reduceEqDiff, I_i, B_b, T_t, Int.toNat_natCast, rI, decide_eq_true_eq, decide_eq_false_iff_not, and_true, true_and, Bool.not_eq_true', cast_lt, cast_le, hu, UF_3, UF_4, anyB] at h h1 h2 h3 ⊢
  all_goals grind
end

/-! ### collections -/
section
variable {o : Env} {vs : List Dv} {k : Dv}
theorem gc0_all (hu : o.uf = UF) (hr : o.v 2020 = LoopY.visD vs) (h : ∀ r ∈ cur .s (o.v 7200).T (expM (o.v 7201) (o.v 7202).I (o.v 7203).I) vs, seenK .s vs r = true) : AllL o gc0L := by
  simp only [gc0L, allL_cons, allL_nil, and_true]
  intro _
  simp only [allT_cons, allT_nil, ob_t, d_uf, d_cel, d_v, hu, UF_70, UF_72, ar_0, ar_1, ar_2, ar_3, ar_4, hr, vis_D, T_t, and_true]
  exact cur_end h
theorem gc1_all (hu : o.uf = UF) (hr : o.v 2020 = LoopY.visD vs) (hk : o.v 7209 = k) (hg : GoodM (o.v 7200).T (o.v 7201) (o.v 7202).I (o.v 7203).I)
    (h : ∃ r ∈ cur .s (o.v 7200).T (expM (o.v 7201) (o.v 7202).I (o.v 7203).I) vs, hd r = k) : AllL o gc1L := by
  obtain ⟨r0, hr0, hr0k⟩ := h
  obtain ⟨r, hrm⟩ : ∃ r, mget .s (cur .s (o.v 7200).T (expM (o.v 7201) (o.v 7202).I (o.v 7203).I) vs) k = some r := by
    cases hm : mget .s (cur .s (o.v 7200).T (expM (o.v 7201) (o.v 7202).I (o.v 7203).I) vs) k with
    | some r => exact ⟨r, rfl⟩
    | none =>
      have := mfind_none (mget_none.1 hm) r0 hr0
      rw [hr0k, s_eq_self] at this; cases this
  obtain ⟨hr1, hr2⟩ := mget_mem hrm
  have hrM := (List.mem_filter.1 hr1).1
  obtain ⟨hix, w, l, hrow, hl0, hl1⟩ := hg.rows r hrM
  have hnow := hg.now
  have hmax := hg.max
  have hstep := cur_step hg.keys hr1 hr2
  have hexp : expM (o.v 7201) (o.v 7202).I (o.v 7203).I r = decide ((o.v 7203).I * 2 < (o.v 7202).I - l) := by
    unfold expM; rw [hrow]; rfl
  have e1 : cc (row (o.v 7201) (cc r 1).I.toNat) 1 = .b true := by rw [show (cc r 1).I = rI r 1 from rfl, hrow]; rfl
  have e2 : cc (row (o.v 7201) (cc r 1).I.toNat) 2 = .i l := by rw [show (cc r 1).I = rI r 1 from rfl, hrow]; rfl
  have hix' : 0 ≤ (cc r 1).I := hix
  have hvis : vis (.t ((LoopY.visD vs).T ++ [[k]])) = vs ++ [k] := by rw [← LoopY.visD_snoc, vis_D]
  simp only [gc1L, allL_cons, allL_nil, and_true]
  and_intros
  all_goals intro h
  all_goals simp only [hold_cons_iff, hold_nil_iff, allT_cons, allT_nil, ob_e, ob_t, dB_lt, dB_le, dB_not, dI_il, dI_sub, dI_mul, d_cell, dI_mf, d_mf, d_uf, d_cel, d_v, dT_md, d_tcat, hu, UF_70, ar_0, ar_1, ar_2, ar_3, ar_4, hr, hk, vis_D, T_t, I_i, B_b, row_mf hrm, e1, e2, decide_eq_true_eq, decide_eq_false_iff_not, and_true, true_and] at h ⊢
  · refine ⟨by omega, by omega, by omega, by omega, hix', hix', hix', ?_⟩
    rw [show vis (Dv.t ((LoopY.visD vs).T ++ (O2.cel.den k (E.den o (E.il 0))).T)) = vs ++ [k] from hvis, hstep, hexp, if_pos (decide_eq_true h.1)]
  · refine ⟨by omega, by omega, by omega, by omega, hix', hix', hix', ?_⟩
    rw [show vis (Dv.t ((LoopY.visD vs).T ++ (O2.cel.den k (E.den o (E.il 0))).T)) = vs ++ [k] from hvis, hstep, hexp, if_neg (by simpa using h.1)]
  · exact absurd h.2.1 (by simp)
  · exact absurd h.2.1 (by simp)
theorem sp0_all (hu : o.uf = UF) (hr : o.v 2022 = LoopY.visD vs) (h : ∀ r ∈ cur .s (o.v 7400).T (expW (o.v 7401).T (o.v 7402).I (o.v 7403).I) vs, seenK .s vs r = true) : AllL o sp0L := by
  simp only [sp0L, allL_cons, allL_nil, and_true]
  intro _
  simp only [allT_cons, allT_nil, ob_t, d_uf, d_cel, d_v, hu, UF_73, UF_74, ar_0, ar_1, ar_2, ar_3, ar_4, hr, vis_D, T_t, and_true]
  exact cur_end h
theorem expW_eq {L : List Row} {now max : Int} {r : Row} {k : Dv} (h : KQ.eq .s (hd r) k = true) : expW L now max r = decide (max * 2 < now - last L k) := by
  have e : mget .s L (hd r) = mget .s L k := by
    have : ∀ l : List Row, mget .s l (hd r) = mget .s l k := by
      intro l
      induction l with
      | nil => rfl
      | cons x l ih => rw [mget_cons, mget_cons, ih, eq_comm', eq_trans' (c := hd x) h, eq_comm']
    exact this L
  unfold expW expd last
  rw [e]
theorem sp1_all (hu : o.uf = UF) (hr : o.v 2022 = LoopY.visD vs) (hk : o.v 7409 = k) (hg : GoodW (o.v 7400).T (o.v 7401).T (o.v 7402).I (o.v 7403).I)
    (h : ∃ r ∈ cur .s (o.v 7400).T (expW (o.v 7401).T (o.v 7402).I (o.v 7403).I) vs, hd r = k) : AllL o sp1L := by
  obtain ⟨r, hr1, hrk⟩ := h
  have hr2 : KQ.eq .s (hd r) k = true := by rw [hrk]; exact s_eq_self
  have hnow := hg.now
  have hmax := hg.max
  have hstep := cur_step hg.keys hr1 hr2
  have hexp := expW_eq (L := (o.v 7401).T) (now := (o.v 7402).I) (max := (o.v 7403).I) hr2
  have hvis : vis (.t ((LoopY.visD vs).T ++ [[k]])) = vs ++ [k] := by rw [← LoopY.visD_snoc, vis_D]
  simp only [sp1L, allL_cons, allL_nil, and_true]
  cases hm : mget .s (o.v 7401).T k with
  | none =>
    have hn : ¬ 0 ≤ mfindI .s k (o.v 7401).T := mf_none.2 hm
    have hl : last (o.v 7401).T k = 0 := by unfold last; rw [hm]
    rw [hl] at hexp
    and_intros
    all_goals intro h
    all_goals simp only [hold_cons_iff, hold_nil_iff, allT_cons, allT_nil, ob_e, ob_t, dB_lt, dB_le, dB_not, dI_il, dI_sub, dI_mul, d_cell, dI_mf, d_mf, d_uf, d_cel, d_v, dT_md, d_tcat, hu, UF_73, ar_0, ar_1, ar_2, ar_3, ar_4, hr, hk, vis_D, T_t, I_i, B_b, decide_eq_true_eq, decide_eq_false_iff_not, and_true, true_and] at h ⊢
    · exact absurd h.2.1 hn
    · exact absurd h.2.1 hn
    · refine ⟨by omega, by omega, by omega, by omega, ?_⟩
      rw [show vis (Dv.t ((LoopY.visD vs).T ++ (O2.cel.den k (E.den o (E.il 0))).T)) = vs ++ [k] from hvis, hstep, hexp, if_pos (decide_eq_true (by omega))]
    · refine ⟨by omega, by omega, by omega, by omega, ?_⟩
      rw [show vis (Dv.t ((LoopY.visD vs).T ++ (O2.cel.den k (E.den o (E.il 0))).T)) = vs ++ [k] from hvis, hstep, hexp, if_neg (by simp; omega)]
  | some x =>
    have hn : 0 ≤ mfindI .s k (o.v 7401).T := mf_nn.2 ⟨x, hm⟩
    have hl : last (o.v 7401).T k = rI x 1 := by unfold last; rw [hm]
    rw [hl] at hexp
    have hx := hg.rows x (mget_mem hm).1
    have e2 : (cc (row (o.v 7401) (mfindI .s k (o.v 7401).T).toNat) 1).I = rI x 1 := by
      have : row (o.v 7401) (mfindI .s k (o.v 7401).T).toNat = x := row_mf hm
      rw [this]; rfl
    and_intros
    all_goals intro h
    all_goals simp only [hold_cons_iff, hold_nil_iff, allT_cons, allT_nil, ob_e, ob_t, dB_lt, dB_le, dB_not, dI_il, dI_sub, dI_mul, d_cell, dI_mf, d_mf, d_uf, d_cel, d_v, dT_md, d_tcat, hu, UF_73, ar_0, ar_1, ar_2, ar_3, ar_4, hr, hk, vis_D, T_t, I_i, B_b, e2, decide_eq_true_eq, decide_eq_false_iff_not, and_true, true_and] at h ⊢
    · refine ⟨by omega, by omega, by omega, by omega, ?_⟩
      rw [show vis (Dv.t ((LoopY.visD vs).T ++ (O2.cel.den k (E.den o (E.il 0))).T)) = vs ++ [k] from hvis, hstep, hexp, if_pos (decide_eq_true (by omega))]
    · refine ⟨by omega, by omega, by omega, by omega, ?_⟩
      rw [show vis (Dv.t ((LoopY.visD vs).T ++ (O2.cel.den k (E.den o (E.il 0))).T)) = vs ++ [k] from hvis, hstep, hexp, if_neg (by simp; omega)]
    · exact absurd hn h.2.1
    · exact absurd hn h.2.1
end
end Go.Proofs.Ytagpchabkplggaa.sxBackoff
