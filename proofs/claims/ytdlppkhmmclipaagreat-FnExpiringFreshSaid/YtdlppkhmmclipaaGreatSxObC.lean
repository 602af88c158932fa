/-
  OBJECTS: the contracts of what is the same, and of what fits.
-/
import Derived.Test.YtdlppkhmmclipaaGreatSxObB
namespace Go.Proofs.YtdlppkhmmclipaaGreat.sxObj
open Go.Sx Go.RowKit Go.Proofs.YtdlppkhmmclipaaGreat
set_option linter.unusedVariables false
def strK : DKs := .cons .str .nil
def intK : DKs := .cons (.int .i64) .nil
def stK : DKs := .cons (.int .i64) (.cons .bool (.cons (.sl objK) (.cons (.sl strK) (.cons .str (.cons (.sl intK) .nil)))))
def capF (l : E) : E × Bool := (.o2 .le (lenE l) (.il 2147483647), true)
def ixE (l a b : E) : E := .uf 130 (pk [l, a, b])
def hasE (l a b : E) : E := .uf 131 (pk [l, a, b])
def ixEnt (l a b : Nat) : Facts := [capF (.v l), (hasE (.v l) (.v a) (.v b), true)]
def ixO : SObj := .cells tIPair [.str (.v 7301), .str (.v 7302)]
def ixY : LoopY where
  f := fIndex; key := 2; N := 19; r := 2120; base := 130000
  js := [5] ++ rgN 9 19
  hd := fun _ => ⟨[(0, .dsl pairK (.v 7300)), (3, .ptr 1 (.c 0)), (4, .top), (7, iS (lenE (.v 7300))), (8, iS (.v 2120))], [(1, ixO)], 9,
    leT (.il 0) (.v 2120) :: leT (.v 2120) (ixE (.v 7300) (.v 7301) (.v 7302)) :: ixEnt 7300 7301 7302⟩
  ent := fun _ => ixEnt 7300 7301 7302
  app := fun _ => true
  ok0 := fun m => Nat.beq m 0
  modeL := fun _ => .ret 0
  tgt := fun m => Nat.beq m 0
  mf := fun _ => []
  hx := fun n => ⟨[(0, .top), (3, .ptr 1 (.c 0)), (4, match n with | 1 => iS (ixE (.v 7300) (.v 7301) (.v 7302)) | _ => .top), (7, .top), (8, .top)], [(1, ixO)], 9, []⟩
  xmL := fun ex _ => match ex with | .ret => .ret 1 | _ => .ret 0
  exN := fun n => match n with | 1 => .ret | _ => .exit 0
  exits := [(.bl false, 0), (.bl true, 1)]
  fixed := [1]
  lt := .o2 .lt (.v 2120) (ixE (.v 7300) (.v 7301) (.v 7302))
  X := XCtr.none
  fuel := 300; np := 80
  params := [7300, 7301, 7302]
def coF : FunY where
  f := fContains
  args := [.dsl pairK (.v 7303), .agg [.str (.v 7304), .str (.v 7305)]]
  params := [7303, 7304, 7305]
  ent := ixEnt 7303 7304 7305
  app := fun _ => true
  exits := [(.bl true, 0)]
  kind := fun _ => some 0
  out := fun _ => .bool (.bl true)
  X := (⟨[], [(fIndex, 2, ixY.lpP)]⟩ : Ctr).x
  fuel := 300; np := 80
def gdT (f key N res : Nat) (ks : DKs) (t islot : Nat) (J : List Nat) (ex p r bad st : Nat) (X : XCtr) (more : List (Nat × SV) := []) (args : List E := []) (ps : List Nat := []) (objs : CHeap := []) (ent : Facts := [capF (.v p)]) : LoopY where
  f := f; key := key; N := N; r := r; base := 131000 + 1000 * (r - 2120)
  js := J
  hd := fun _ => ⟨more ++ [(res, .bool (.bl false)), (t, .dsl ks (.v p)), (t + 1, iS (lenE (.v p))), (islot, iS (.v r))], objs, 9,
    leT (.il 0) (.v r) :: leT (.v r) (.uf st (pk (.v p :: args))) :: ent⟩
  ent := fun _ => ent
  app := fun _ => true
  ok0 := fun m => Nat.beq m 0
  modeL := fun _ => .ret 0
  tgt := fun m => Nat.beq m 0
  mf := fun _ => []
  hx := fun n => ⟨more ++ [(res, .bool (.bl false)), (t, .dsl ks (.v p)), (t + 1, iS (lenE (.v p))), (islot, .top)], objs, 9, []⟩
  xmL := fun ex _ => match ex with | .ret => .ret 1 | _ => .ret 0
  exN := fun n => match n with | 1 => .ret | _ => .exit ex
  exits := [(.uf bad (pk (.v p :: args)), 1), (.bl true, 0)]
  fixed := objs.map (·.1)
  lt := .o2 .lt (.v r) (.uf st (pk (.v p :: args)))
  X := X
  fuel := 300; np := 80
  params := p :: ps
def saysF (f : Nat) (args : List SV) (ps : List Nat) (ent : Facts) (code : Nat) (xs : List E) (X : XCtr) : FunY where
  f := f
  args := args
  params := ps
  ent := ent
  app := fun _ => true
  exits := [(.bl true, 0)]
  kind := fun _ => some 0
  out := fun _ => .bool (.uf code (pk xs))
  X := X
  fuel := 300; np := 80
def goT (f key N res : Nat) (ks : DKs) (t islot : Nat) (J : List Nat) (ex p r : Nat) (X : XCtr) (ent : Facts) (more : List (Nat × SV) := []) (ps : List Nat := []) (objs : CHeap := []) : LoopY where
  f := f; key := key; N := N; r := r; base := 131000 + 1000 * (r - 2120)
  js := J
  hd := fun _ => ⟨more ++ [(res, .bool (.bl false)), (t, .dsl ks (.v p)), (t + 1, iS (lenE (.v p))), (islot, iS (.v r))], objs, 9,
    leT (.il 0) (.v r) :: leT (.v r) (lenE (.v p)) :: capF (.v p) :: ent⟩
  ent := fun _ => capF (.v p) :: ent
  app := fun _ => true
  ok0 := fun m => Nat.beq m 0
  modeL := fun _ => .ret 0
  tgt := fun m => Nat.beq m 0
  mf := fun _ => []
  hx := fun n => ⟨more ++ [(res, .bool (.bl false)), (t, .dsl ks (.v p)), (t + 1, iS (lenE (.v p))), (islot, .top)], objs, 9, []⟩
  xmL := fun ex _ => match ex with | .ret => .ret 1 | _ => .ret 0
  exN := fun n => match n with | 1 => .ret | _ => .exit ex
  exits := [(.bl false, 1), (.bl true, 0)]
  fixed := objs.map (·.1)
  lt := .o2 .lt (.v r) (lenE (.v p))
  X := X
  fuel := 300; np := 80
  params := p :: ps
def slY : LoopY := goT fSameLabels 4 23 4 pairK 12 14 ([6] ++ rgN 15 23) 0 7307 2121 (⟨[(fContains, coF.funP)], []⟩ : Ctr).x [] [(1, .dsl pairK (.v 7307))]
def slF : FunY where
  f := fSameLabels
  args := [.dsl pairK (.v 7308), .dsl pairK (.v 7308)]
  params := [7308]
  ent := [capF (.v 7308)]
  app := fun _ => true
  exits := [(.bl true, 0)]
  kind := fun _ => some 0
  out := fun _ => .bool (.bl true)
  X := (⟨[], [(fSameLabels, 4, slY.lpP)]⟩ : Ctr).x
  fuel := 300; np := 80
def soF : FunY where
  f := fSameObj
  args := [.agg (obj8 (vE 7310)), .agg (obj8 (vE 7310))]
  params := rgN 7310 7318
  ent := [capF (.v 7314)]
  app := fun _ => true
  exits := [(.bl true, 0)]
  kind := fun _ => some 0
  out := fun _ => .bool (.bl true)
  X := (⟨[(fSameLabels, slF.funP)], []⟩ : Ctr).x
  fuel := 300; np := 80
def zM : E := .il 2147483647
def fZz35 : Nat := 16
def fZz5 : Nat := 21
def fZz6 : Nat := 42
def fZz18 : Nat := 44
def fPairs : Nat := 72
def fSmObj : Nat := 22
def fSmObjs : Nat := 24
def fExOps : Nat := 17
def exK : DKs := .cons (.int .i64) (.cons .str (.cons .str (.cons .str (.cons .str (.cons (.sl pairK) (.cons .str (.cons .bool (.cons .bool (.cons (.sl objK) (.cons (.int .i64) .nil))))))))))
def z6Y : LoopY := gdT fZz6 4 18 2 pairK 8 10 ([4] ++ rgN 11 18) 0 7400 2130 133 134 XCtr.none
def z6F : FunY := saysF fZz6 [.dsl pairK (.v 7401)] [7401] [] 135 [.v 7401] (⟨[], [(fZz6, 4, z6Y.lpP)]⟩ : Ctr).x
def fitE (e : Nat -> E) : E := .uf 136 (pk [e 0, e 1, e 2, e 3, e 4, e 5])
def z5F : FunY := saysF fZz5 [.agg (obj8 (vE 7410))] (rgN 7410 7418) [] 136 [.v 7410, .v 7411, .v 7412, .v 7413, .v 7414, .v 7415] (⟨[(fZz6, z6F.funP)], []⟩ : Ctr).x
def z18Y : LoopY := gdT fZz18 4 18 2 objK 8 10 ([4] ++ rgN 11 18) 0 7420 2131 137 138 (⟨[(fZz5, z5F.funP)], []⟩ : Ctr).x
def z18F : FunY := saysF fZz18 [.dsl objK (.v 7421)] [7421] [] 139 [.v 7421] (⟨[], [(fZz18, 4, z18Y.lpP)]⟩ : Ctr).x
def z35Y : LoopY := gdT fZz35 4 18 2 exK 8 10 ([4] ++ rgN 11 18) 0 7422 2132 140 141 (⟨[(fZz5, z5F.funP), (fZz18, z18F.funP)], []⟩ : Ctr).x
def z35F : FunY := saysF fZz35 [.dsl exK (.v 7423)] [7423] [] 142 [.v 7423] (⟨[], [(fZz35, 4, z35Y.lpP)]⟩ : Ctr).x
def dupY : LoopY := gdT fPairs 7 42 2 pairK 26 28 ([6] ++ rgN 29 38) 2 7430 2133 143 144 XCtr.none [(4, .ptr 1 (.c 0))] [.v 7431] [7431, 7432] [(1, .cells tIPair [.str (.v 7431), .str (.v 7432)])]
def prsY : LoopY := gdT fPairs 2 42 2 pairK 7 9 ([3, 4, 6] ++ rgN 10 39) 0 7433 2134 145 146 (⟨[], [(fPairs, 7, dupY.lpP)]⟩ : Ctr).x [(0, .dsl pairK (.v 7433))]
def prsF : FunY := saysF fPairs [.dsl pairK (.v 7434)] [7434] [capF (.v 7434)] 147 [.v 7434] (⟨[], [(fPairs, 2, prsY.lpP)]⟩ : Ctr).x
def szE (e : E) : E := .o1 .size e
def shY : LoopY where
  f := fSmObj; key := 5; N := 34; r := 2135; base := 146000
  js := [5] ++ rgN 19 26
  hd := fun _ => ⟨[(2, .bool (.bl false)), (4, .str (.v 7436)), (17, iS (szE (.v 7436))), (18, iS (.v 2135))], [], 9,
    leT (.il 0) (.v 2135) :: leT (.v 2135) (.uf 149 (pk [.v 7436])) :: [leT (szE (.v 7436)) zM]⟩
  ent := fun _ => [leT (szE (.v 7436)) zM]
  app := fun _ => true
  ok0 := fun m => Nat.beq m 0
  modeL := fun _ => .ret 0
  tgt := fun m => Nat.beq m 0
  mf := fun _ => []
  hx := fun n => ⟨[(2, .bool (.bl false)), (4, .str (.v 7436)), (17, .top), (18, .top)], [], 9, []⟩
  xmL := fun ex _ => match ex with | .ret => .ret 1 | _ => .ret 0
  exN := fun n => match n with | 1 => .ret | _ => .exit 2
  exits := [(.uf 148 (pk [.v 7436]), 1), (.bl true, 0)]
  fixed := []
  lt := .o2 .lt (.v 2135) (.uf 149 (pk [.v 7436]))
  X := XCtr.none
  fuel := 300; np := 80
  params := [7436]
def smF : FunY := saysF fSmObj [.agg (obj8 (vE 7440))] (rgN 7440 7448) [(fitE (vE 7440), true)] 150 (pk8 (vE 7440)) (⟨[(fPairs, prsF.funP)], [(fSmObj, 5, shY.lpP)]⟩ : Ctr).x
def smsY : LoopY := gdT fSmObjs 2 18 2 objK 5 7 ([4] ++ rgN 8 15) 0 7450 2136 151 152 (⟨[(fSmObj, smF.funP)], []⟩ : Ctr).x [] [] [] [] [(.uf 139 (pk [.v 7450]), true)]
def smsF : FunY := saysF fSmObjs [.dsl objK (.v 7451)] [7451] [(.uf 139 (pk [.v 7451]), true)] 153 [.v 7451] (⟨[], [(fSmObjs, 2, smsY.lpP)]⟩ : Ctr).x
def exY : LoopY := gdT fExOps 2 45 2 exK 5 7 ([4] ++ rgN 8 42) 0 7452 2137 154 155 (⟨[(fSmObj, smF.funP), (fSmObjs, smsF.funP)], []⟩ : Ctr).x [] [] [] [] [(.uf 142 (pk [.v 7452]), true)]
def exF : FunY := saysF fExOps [.dsl exK (.v 7453)] [7453] [(.uf 142 (pk [.v 7453]), true)] 156 [.v 7453] (⟨[], [(fExOps, 2, exY.lpP)]⟩ : Ctr).x
end Go.Proofs.YtdlppkhmmclipaaGreat.sxObj
namespace Go.Proofs.YtdlppkhmmclipaaGreat.sxObj
open Go.Sx
set_option linter.unusedVariables false
abbrev od0 : E := .o2 .seq (.v 7302) (.o2 (.cell 1) (.v 7300) (.v 2120))
abbrev od1 : E := .o2 .seq (.v 7301) (.o2 (.cell 0) (.v 7300) (.v 2120))
abbrev od2 : E := .o2 .lt (.v 2120) (.o1 .tlen (.v 7300))
abbrev od3 : Facts := [(od2, true)]
abbrev od4 : Facts := ((od1, true) : E × Bool) :: od3
abbrev od5 : E := .uf 130 (.o2 .cel (.v 7300) (.o2 .cel (.v 7301) (.o2 .cel (.v 7302) (.il 0))))
abbrev od6 : List Ob := [(.e (.o2 .lt (.v 2120) od5))]
def ixL : List (Facts × List Ob) :=
  [((((od0, true) : E × Bool) :: od4),
    [(.e (.o2 .ieq (.v 2120) od5))]),
   ((((od0, false) : E × Bool) :: od4),
    od6),
   ((((od1, false) : E × Bool) :: od3),
    od6),
   ([(od2, false)],
    [(.e (.bl false))])]
def coL : List (Facts × List Ob) :=
  [([],
    [(.e (.o2 .beq (.o2 .le (.il 0) (.uf 130 (.o2 .cel (.v 7303) (.o2 .cel (.v 7304) (.o2 .cel (.v 7305) (.il 0)))))) (.bl true)))])]
abbrev od7 : E := .o2 .lt (.v 2121) (.o1 .tlen (.v 7307))
def slYL : List (Facts × List Ob) :=
  [([(od7, true)],
    [(.e (.uf 131 (.o2 .cel (.v 7307) (.o2 .cel (.o2 (.cell 0) (.v 7307) (.v 2121)) (.o2 .cel (.o2 (.cell 1) (.v 7307) (.v 2121)) (.il 0))))))]),
   ([(od7, false)],
    [])]
def slL : List (Facts × List Ob) :=
  [([],
    [])]
def soL : List (Facts × List Ob) :=
  [([],
    [])]
abbrev od9 : Facts := [((.o2 .ieq (.v 7320) (.il 0)), true)]
abbrev od10 : Facts := [((.o2 .ieq (.v 7320) (.il 0)), false)]
abbrev od11 : E := .o2 .lt (.v 2123) (.o1 .tlen (.v 7323))
def ss2L : List (Facts × List Ob) :=
  [((((od11, true) : E × Bool) :: od9),
    []),
   ((((od11, false) : E × Bool) :: od9),
    []),
   (od10,
    [])]
def ssL : List (Facts × List Ob) :=
  [([((.o2 .ieq (.v 7330) (.il 0)), true)],
    []),
   ([((.o2 .ieq (.v 7330) (.il 0)), false)],
    [])]
def saL : List (Facts × List Ob) :=
  [([],
    [])]
abbrev od13 : E := .o2 .lt (.il 2147483647) (.o1 .size (.o2 (.cell 0) (.v 7400) (.v 2130)))
abbrev od14 : E := .o2 .lt (.v 2130) (.o1 .tlen (.v 7400))
abbrev od15 : Facts := [(od14, true)]
abbrev od16 : E := .uf 133 (.o2 .cel (.v 7400) (.il 0))
abbrev od17 : E := .o2 .lt (.il 2147483647) (.o1 .size (.o2 (.cell 1) (.v 7400) (.v 2130)))
abbrev od18 : Facts := ((od13, false) : E × Bool) :: od15
def z6YL : List (Facts × List Ob) :=
  [((((od13, true) : E × Bool) :: od15),
    [(.e od16)]),
   ((((od17, true) : E × Bool) :: od18),
    [(.e od16)]),
   ((((od17, false) : E × Bool) :: od18),
    [(.e (.o2 .lt (.v 2130) (.uf 134 (.o2 .cel (.v 7400) (.il 0)))))]),
   ([(od14, false)],
    [(.e (.o1 .not od16))])]
abbrev od19 : E := .o2 .lt (.il 2147483647) (.o1 .tlen (.v 7401))
abbrev od20 : E := .uf 135 (.o2 .cel (.v 7401) (.il 0))
abbrev od21 : List Ob := [(.e (.o2 .beq (.bl false) od20))]
abbrev od22 : E := .uf 133 (.o2 .cel (.v 7401) (.il 0))
abbrev od23 : Facts := [(od19, false)]
def z6L : List (Facts × List Ob) :=
  [([(od19, true)],
    od21),
   ((((od22, true) : E × Bool) :: od23),
    od21),
   ((((od22, false) : E × Bool) :: od23),
    [(.e (.o2 .beq (.bl true) od20))])]
abbrev od24 : E := .o2 .lt (.il 2147483647) (.o1 .size (.v 7410))
abbrev od25 : E := .uf 136 (.o2 .cel (.v 7410) (.o2 .cel (.v 7411) (.o2 .cel (.v 7412) (.o2 .cel (.v 7413) (.o2 .cel (.v 7414) (.o2 .cel (.v 7415) (.il 0)))))))
abbrev od26 : List Ob := [(.e (.o2 .beq (.bl false) od25))]
abbrev od27 : E := .o2 .lt (.il 2147483647) (.o1 .size (.v 7411))
abbrev od28 : Facts := [(od24, false)]
abbrev od29 : E := .o2 .lt (.il 2147483647) (.o1 .size (.v 7412))
abbrev od30 : Facts := ((od27, false) : E × Bool) :: od28
abbrev od31 : E := .o2 .lt (.il 2147483647) (.o1 .size (.v 7413))
abbrev od32 : Facts := ((od29, false) : E × Bool) :: od30
abbrev od33 : E := .o2 .lt (.il 2147483647) (.o1 .size (.v 7415))
abbrev od34 : E := .uf 135 (.o2 .cel (.v 7414) (.il 0))
abbrev od35 : Facts := ((od31, false) : E × Bool) :: od32
abbrev od36 : Facts := ((od34, true) : E × Bool) :: od35
def z5L : List (Facts × List Ob) :=
  [([(od24, true)],
    od26),
   ((((od27, true) : E × Bool) :: od28),
    od26),
   ((((od29, true) : E × Bool) :: od30),
    od26),
   ((((od31, true) : E × Bool) :: od32),
    od26),
   ((((od33, true) : E × Bool) :: od36),
    od26),
   ((((od33, false) : E × Bool) :: od36),
    [(.e (.o2 .beq (.bl true) od25))]),
   ((((od34, false) : E × Bool) :: od35),
    od26)]
abbrev od37 : E := .uf 136 (.o2 .cel (.o2 (.cell 0) (.v 7420) (.v 2131)) (.o2 .cel (.o2 (.cell 1) (.v 7420) (.v 2131)) (.o2 .cel (.o2 (.cell 2) (.v 7420) (.v 2131)) (.o2 .cel (.o2 (.cell 3) (.v 7420) (.v 2131)) (.o2 .cel (.o2 (.cell 4) (.v 7420) (.v 2131)) (.o2 .cel (.o2 (.cell 5) (.v 7420) (.v 2131)) (.il 0)))))))
abbrev od38 : E := .o2 .lt (.v 2131) (.o1 .tlen (.v 7420))
abbrev od39 : Facts := [(od38, true)]
abbrev od40 : E := .uf 137 (.o2 .cel (.v 7420) (.il 0))
def z18YL : List (Facts × List Ob) :=
  [((((od37, true) : E × Bool) :: od39),
    [(.e (.o2 .lt (.v 2131) (.uf 138 (.o2 .cel (.v 7420) (.il 0)))))]),
   ((((od37, false) : E × Bool) :: od39),
    [(.e od40)]),
   ([(od38, false)],
    [(.e (.o1 .not od40))])]
abbrev od41 : E := .o2 .lt (.il 2147483647) (.o1 .tlen (.v 7421))
abbrev od42 : E := .uf 139 (.o2 .cel (.v 7421) (.il 0))
abbrev od43 : List Ob := [(.e (.o2 .beq (.bl false) od42))]
abbrev od44 : E := .uf 137 (.o2 .cel (.v 7421) (.il 0))
abbrev od45 : Facts := [(od41, false)]
def z18L : List (Facts × List Ob) :=
  [([(od41, true)],
    od43),
   ((((od44, true) : E × Bool) :: od45),
    od43),
   ((((od44, false) : E × Bool) :: od45),
    [(.e (.o2 .beq (.bl true) od42))])]
abbrev od46 : E := .uf 139 (.o2 .cel (.o2 (.cell 9) (.v 7422) (.v 2132)) (.il 0))
abbrev od47 : E := .uf 136 (.o2 .cel (.o2 (.cell 1) (.v 7422) (.v 2132)) (.o2 .cel (.o2 (.cell 2) (.v 7422) (.v 2132)) (.o2 .cel (.o2 (.cell 3) (.v 7422) (.v 2132)) (.o2 .cel (.o2 (.cell 4) (.v 7422) (.v 2132)) (.o2 .cel (.o2 (.cell 5) (.v 7422) (.v 2132)) (.o2 .cel (.o2 (.cell 6) (.v 7422) (.v 2132)) (.il 0)))))))
abbrev od48 : E := .o2 .lt (.v 2132) (.o1 .tlen (.v 7422))
abbrev od49 : Facts := [(od48, true)]
abbrev od50 : Facts := ((od47, true) : E × Bool) :: od49
abbrev od51 : E := .uf 140 (.o2 .cel (.v 7422) (.il 0))
def z35YL : List (Facts × List Ob) :=
  [((((od46, true) : E × Bool) :: od50),
    [(.e (.o2 .lt (.v 2132) (.uf 141 (.o2 .cel (.v 7422) (.il 0)))))]),
   ((((od46, false) : E × Bool) :: od50),
    [(.e od51)]),
   ((((od47, false) : E × Bool) :: od49),
    [(.e od51)]),
   ([(od48, false)],
    [(.e (.o1 .not od51))])]
abbrev od52 : E := .o2 .lt (.il 2147483647) (.o1 .tlen (.v 7423))
abbrev od53 : E := .uf 142 (.o2 .cel (.v 7423) (.il 0))
abbrev od54 : List Ob := [(.e (.o2 .beq (.bl false) od53))]
abbrev od55 : E := .uf 140 (.o2 .cel (.v 7423) (.il 0))
abbrev od56 : Facts := [(od52, false)]
def z35L : List (Facts × List Ob) :=
  [([(od52, true)],
    od54),
   ((((od55, true) : E × Bool) :: od56),
    od54),
   ((((od55, false) : E × Bool) :: od56),
    [(.e (.o2 .beq (.bl true) od53))])]
abbrev od57 : E := .o2 .seq (.o2 (.cell 0) (.v 7430) (.v 2133)) (.v 7431)
abbrev od58 : E := .o2 .lt (.v 2133) (.o1 .tlen (.v 7430))
abbrev od59 : Facts := [(od58, true)]
abbrev od60 : E := .o2 .cel (.v 7430) (.o2 .cel (.v 7431) (.il 0))
def dupL : List (Facts × List Ob) :=
  [((((od57, true) : E × Bool) :: od59),
    [(.e (.uf 143 od60))]),
   ((((od57, false) : E × Bool) :: od59),
    [(.e (.o2 .lt (.v 2133) (.uf 144 od60)))]),
   ([(od58, false)],
    [(.e (.o1 .not (.uf 143 od60)))])]
abbrev od61 : E := .uf 143 (.o2 .cel (.o2 .ttake (.v 7433) (.v 2134)) (.o2 .cel (.o2 (.cell 0) (.v 7433) (.v 2134)) (.il 0)))
abbrev od62 : E := .o2 .le (.o1 .size (.o2 (.cell 1) (.v 7433) (.v 2134))) (.il 40)
abbrev od63 : E := .o2 .le (.o1 .size (.o2 (.cell 0) (.v 7433) (.v 2134))) (.il 40)
abbrev od64 : E := .o2 .lt (.v 2134) (.o1 .tlen (.v 7433))
abbrev od65 : Facts := [(od64, true)]
abbrev od66 : Facts := ((od63, true) : E × Bool) :: od65
abbrev od67 : Facts := ((od62, true) : E × Bool) :: od66
abbrev od68 : E := .uf 145 (.o2 .cel (.v 7433) (.il 0))
abbrev od69 : List Ob := [(.e (.o2 .le (.o1 .tlen (.o2 .ttake (.v 7433) (.v 2134))) (.il 2147483647))), (.e (.o2 .le (.v 2134) (.o1 .tlen (.v 7433))))]
def prsYL : List (Facts × List Ob) :=
  [((((od61, true) : E × Bool) :: od67),
    (((.e od68) : Ob) :: od69)),
   ((((od61, false) : E × Bool) :: od67),
    (((.e (.o2 .lt (.v 2134) (.uf 146 (.o2 .cel (.v 7433) (.il 0))))) : Ob) :: od69)),
   ((((od62, false) : E × Bool) :: od66),
    [(.e od68)]),
   ((((od63, false) : E × Bool) :: od65),
    [(.e od68)]),
   ([(od64, false)],
    [(.e (.o1 .not od68))])]
abbrev od70 : E := .uf 145 (.o2 .cel (.v 7434) (.il 0))
abbrev od71 : E := .uf 147 (.o2 .cel (.v 7434) (.il 0))
def prsL : List (Facts × List Ob) :=
  [([(od70, true)],
    [(.e (.o2 .beq (.bl false) od71))]),
   ([(od70, false)],
    [(.e (.o2 .beq (.o2 .le (.o1 .tlen (.v 7434)) (.il 6)) od71))])]
abbrev od72 : E := .o2 .ieq (.o2 .byte (.v 7436) (.v 2135)) (.il 47)
abbrev od73 : E := .o2 .lt (.v 2135) (.o1 .size (.v 7436))
abbrev od74 : Facts := [(od73, true)]
abbrev od75 : E := .uf 148 (.o2 .cel (.v 7436) (.il 0))
def shL : List (Facts × List Ob) :=
  [((((od72, true) : E × Bool) :: od74),
    [(.e od75)]),
   ((((od72, false) : E × Bool) :: od74),
    [(.e (.o2 .lt (.v 2135) (.uf 149 (.o2 .cel (.v 7436) (.il 0)))))]),
   ([(od73, false)],
    [(.e (.o1 .not od75))])]
abbrev od76 : E := .uf 148 (.o2 .cel (.v 7440) (.il 0))
abbrev od77 : E := .uf 150 (.o2 .cel (.v 7440) (.o2 .cel (.v 7441) (.o2 .cel (.v 7442) (.o2 .cel (.v 7443) (.o2 .cel (.v 7444) (.o2 .cel (.v 7445) (.o2 .cel (.v 7446) (.o2 .cel (.v 7447) (.il 0)))))))))
abbrev od78 : List Ob := [(.e (.o2 .beq (.bl false) od77))]
abbrev od79 : List Ob := ((.e (.o2 .le (.o1 .size (.v 7440)) (.il 2147483647))) : Ob) :: od78
abbrev od80 : E := .uf 148 (.o2 .cel (.v 7441) (.il 0))
abbrev od81 : Facts := [(od76, false)]
abbrev od82 : List Ob := ((.e (.o2 .le (.o1 .size (.v 7441)) (.il 2147483647))) : Ob) :: od79
abbrev od83 : E := .uf 147 (.o2 .cel (.v 7444) (.il 0))
abbrev od84 : E := .o2 .le (.o1 .tlen (.v 7444)) (.il 4)
abbrev od85 : E := .o2 .le (.o1 .size (.v 7445)) (.il 40)
abbrev od86 : E := .o2 .le (.o1 .size (.v 7443)) (.il 20)
abbrev od87 : E := .o2 .le (.o1 .size (.v 7442)) (.il 20)
abbrev od88 : E := .o2 .le (.o1 .size (.v 7441)) (.il 20)
abbrev od89 : E := .o2 .le (.o1 .size (.v 7440)) (.il 20)
abbrev od90 : Facts := ((od80, false) : E × Bool) :: od81
abbrev od91 : Facts := ((od89, true) : E × Bool) :: od90
abbrev od92 : Facts := ((od88, true) : E × Bool) :: od91
abbrev od93 : Facts := ((od87, true) : E × Bool) :: od92
abbrev od94 : Facts := ((od86, true) : E × Bool) :: od93
abbrev od95 : Facts := ((od85, true) : E × Bool) :: od94
abbrev od96 : Facts := ((od84, true) : E × Bool) :: od95
abbrev od97 : Facts := ((od83, true) : E × Bool) :: od96
def smL : List (Facts × List Ob) :=
  [([(od76, true)],
    od79),
   ((((od80, true) : E × Bool) :: od81),
    od82),
   (((((.v 7447), true) : E × Bool) :: od97),
    od78),
   (((((.v 7447), false) : E × Bool) :: od97),
    [(.e (.o2 .beq (.o1 .not (.o2 .seq (.v 7441) (.sl []))) od77))]),
   ((((od83, false) : E × Bool) :: od96),
    od78),
   ((((od84, false) : E × Bool) :: od95),
    od78),
   ((((od85, false) : E × Bool) :: od94),
    od78),
   ((((od86, false) : E × Bool) :: od93),
    od78),
   ((((od87, false) : E × Bool) :: od92),
    od78),
   ((((od88, false) : E × Bool) :: od91),
    (((.e (.o2 .le (.o1 .size (.v 7441)) (.il 2147483647))) : Ob) :: od78)),
   ((((od89, false) : E × Bool) :: od90),
    od82)]
abbrev od98 : E := .uf 150 (.o2 .cel (.o2 (.cell 0) (.v 7450) (.v 2136)) (.o2 .cel (.o2 (.cell 1) (.v 7450) (.v 2136)) (.o2 .cel (.o2 (.cell 2) (.v 7450) (.v 2136)) (.o2 .cel (.o2 (.cell 3) (.v 7450) (.v 2136)) (.o2 .cel (.o2 (.cell 4) (.v 7450) (.v 2136)) (.o2 .cel (.o2 (.cell 5) (.v 7450) (.v 2136)) (.o2 .cel (.o2 (.cell 6) (.v 7450) (.v 2136)) (.o2 .cel (.o2 (.cell 7) (.v 7450) (.v 2136)) (.il 0)))))))))
abbrev od99 : E := .o2 .lt (.v 2136) (.o1 .tlen (.v 7450))
abbrev od100 : Facts := [(od99, true)]
abbrev od101 : List Ob := [(.e (.uf 136 (.o2 .cel (.o2 (.cell 0) (.v 7450) (.v 2136)) (.o2 .cel (.o2 (.cell 1) (.v 7450) (.v 2136)) (.o2 .cel (.o2 (.cell 2) (.v 7450) (.v 2136)) (.o2 .cel (.o2 (.cell 3) (.v 7450) (.v 2136)) (.o2 .cel (.o2 (.cell 4) (.v 7450) (.v 2136)) (.o2 .cel (.o2 (.cell 5) (.v 7450) (.v 2136)) (.il 0)))))))))]
abbrev od102 : E := .uf 151 (.o2 .cel (.v 7450) (.il 0))
def smsYL : List (Facts × List Ob) :=
  [((((od98, true) : E × Bool) :: od100),
    (((.e (.o2 .lt (.v 2136) (.uf 152 (.o2 .cel (.v 7450) (.il 0))))) : Ob) :: ((.e (.o2 .le (.o2 .add (.v 2136) (.il 1)) (.il 9223372036854775807))) : Ob) :: od101)),
   ((((od98, false) : E × Bool) :: od100),
    (((.e od102) : Ob) :: od101)),
   ([(od99, false)],
    [(.e (.o1 .not od102))])]
abbrev od103 : E := .uf 151 (.o2 .cel (.v 7451) (.il 0))
abbrev od104 : E := .uf 153 (.o2 .cel (.v 7451) (.il 0))
def smsL : List (Facts × List Ob) :=
  [([(od103, true)],
    [(.e (.o2 .beq (.bl false) od104))]),
   ([(od103, false)],
    [(.e (.o2 .beq (.o2 .le (.o1 .tlen (.v 7451)) (.il 20)) od104))])]
abbrev od105 : E := .o2 .lt (.o2 (.cell 0) (.v 7452) (.v 2137)) (.il 1)
abbrev od106 : E := .o2 .lt (.v 2137) (.o1 .tlen (.v 7452))
abbrev od107 : Facts := [(od106, true)]
abbrev od108 : E := .uf 154 (.o2 .cel (.v 7452) (.il 0))
abbrev od109 : E := .o2 .lt (.il 7) (.o2 (.cell 0) (.v 7452) (.v 2137))
abbrev od110 : Facts := ((od105, false) : E × Bool) :: od107
abbrev od111 : E := .o2 (.cell 10) (.v 7452) (.v 2137)
abbrev od112 : E := .o2 .lt od111 (.il 0)
abbrev od113 : E := .o2 .cel (.o2 (.cell 9) (.v 7452) (.v 2137)) (.il 0)
abbrev od114 : E := .uf 153 od113
abbrev od115 : E := .uf 150 (.o2 .cel (.o2 (.cell 1) (.v 7452) (.v 2137)) (.o2 .cel (.o2 (.cell 2) (.v 7452) (.v 2137)) (.o2 .cel (.o2 (.cell 3) (.v 7452) (.v 2137)) (.o2 .cel (.o2 (.cell 4) (.v 7452) (.v 2137)) (.o2 .cel (.o2 (.cell 5) (.v 7452) (.v 2137)) (.o2 .cel (.o2 (.cell 6) (.v 7452) (.v 2137)) (.o2 .cel (.o2 (.cell 7) (.v 7452) (.v 2137)) (.o2 .cel (.o2 (.cell 8) (.v 7452) (.v 2137)) (.il 0)))))))))
abbrev od116 : Facts := ((od109, false) : E × Bool) :: od110
abbrev od117 : Facts := ((od115, true) : E × Bool) :: od116
abbrev od118 : Facts := ((od114, true) : E × Bool) :: od117
abbrev od119 : List Ob := [(.e (.uf 136 (.o2 .cel (.o2 (.cell 1) (.v 7452) (.v 2137)) (.o2 .cel (.o2 (.cell 2) (.v 7452) (.v 2137)) (.o2 .cel (.o2 (.cell 3) (.v 7452) (.v 2137)) (.o2 .cel (.o2 (.cell 4) (.v 7452) (.v 2137)) (.o2 .cel (.o2 (.cell 5) (.v 7452) (.v 2137)) (.o2 .cel (.o2 (.cell 6) (.v 7452) (.v 2137)) (.il 0)))))))))]
abbrev od120 : List Ob := ((.e (.uf 139 od113)) : Ob) :: od119
abbrev od121 : List Ob := ((.e od108) : Ob) :: od120
abbrev od122 : E := .o2 .lt (.il 1099511627776) od111
abbrev od123 : Facts := ((od112, false) : E × Bool) :: od118
def exYL : List (Facts × List Ob) :=
  [((((od105, true) : E × Bool) :: od107),
    [(.e od108)]),
   ((((od109, true) : E × Bool) :: od110),
    [(.e od108)]),
   ((((od112, true) : E × Bool) :: od118),
    od121),
   ((((od122, true) : E × Bool) :: od123),
    od121),
   ((((od122, false) : E × Bool) :: od123),
    (((.e (.o2 .lt (.v 2137) (.uf 155 (.o2 .cel (.v 7452) (.il 0))))) : Ob) :: ((.e (.o2 .le (.o2 .add (.v 2137) (.il 1)) (.il 9223372036854775807))) : Ob) :: od120)),
   ((((od114, false) : E × Bool) :: od117),
    od121),
   ((((od115, false) : E × Bool) :: od116),
    (((.e od108) : Ob) :: od119)),
   ([(od106, false)],
    [(.e (.o1 .not od108))])]
abbrev od124 : E := .uf 154 (.o2 .cel (.v 7453) (.il 0))
abbrev od125 : E := .uf 156 (.o2 .cel (.v 7453) (.il 0))
def exL : List (Facts × List Ob) :=
  [([(od124, true)],
    [(.e (.o2 .beq (.bl false) od125))]),
   ([(od124, false)],
    [(.e (.o2 .beq (.o2 .le (.o1 .tlen (.v 7453)) (.il 80)) od125))])]
end Go.Proofs.YtdlppkhmmclipaaGreat.sxObj
namespace Go.Proofs.YtdlppkhmmclipaaGreat.sxObj
open Go.Sx Go.RowKit Go.Proofs.YtdlppkhmmclipaaGreat
set_option linter.unusedVariables false
set_option linter.unusedSimpArgs false
set_option maxRecDepth 100000
theorem d_byte {env : Env} {a b : E} : (E.o2 .byte a b).den env = .i ((((a.den env).S.data[(b.den env).I.toNat]?.getD 0).toNat : Nat) : Int) := id rfl
theorem dI_byte {env : Env} {a b : E} : ((E.o2 .byte a b).den env).I = ((((a.den env).S.data[(b.den env).I.toNat]?.getD 0).toNat : Nat) : Int) := id rfl
theorem nil_list : (ByteArray.mk [].toArray).toList = [] := by rw [toList_data]
theorem st_le {B : Nat -> Bool} {n r : Nat} (h : B r = true) : stop B n <= r := Nat.le_of_not_lt fun hl => by
  have := stop_before hl; rw [h] at this; cases this
theorem ix_self {l : Dv} {r : Nat} : ixB l (cc (row l r) 0) (cc (row l r) 1) r = true := by unfold ixB; simp
section
variable {o : Env}
theorem ix_all (hu : OU o) {r : Nat} (hr : o.v 2120 = .i r) (hent : (ixY.ent 0).Hold o) (hle : (r : Int) <= ((ixE (.v 7300) (.v 7301) (.v 7302)).den o).I) : AllL o ixL := by
  simp only [ixY, ixEnt, capF, lenE, hasE, ixE, pk, List.foldr, SS, implies_true, hu.u130, hu.u131] at hent hle; have h1 := @stop_yes (ixB (o.v 7300) (o.v 7301) (o.v 7302)) (o.v 7300).T.length r (by show r <= ixN _ _ _; omega)
  have h2 := @stop_no (ixB (o.v 7300) (o.v 7301) (o.v 7302)) (o.v 7300).T.length r (by show r <= ixN _ _ _; omega)
  have h3 := hent.2; simp only [ixL, allL_cons, allL_nil, and_true]
  and_intros
  all_goals intro h
  all_goals simp only [SS, implies_true, hr, hu.u130] at h ⊢
  . have hb : ixB (o.v 7300) (o.v 7301) (o.v 7302) r = true := by
      unfold ixB; rw [<- h.1, <- h.2.1]; simp
    have h4 : ixN (o.v 7300) (o.v 7301) (o.v 7302) <= r := by
      refine Nat.le_of_not_lt fun hl => ?_; have := stop_before hl; rw [hb] at this; cases this
    omega
  . have hb : ixB (o.v 7300) (o.v 7301) (o.v 7302) r = false := by
      unfold ixB; rw [<- h.2.1]; simp only [Bool.and_eq_false_iff, beq_eq_false_iff_ne]; exact .inr fun e => h.1 e.symm
    have := h2 (by omega) hb
    show (r : Int) < (ixN _ _ _ : Nat); unfold ixN; omega
  . have hb : ixB (o.v 7300) (o.v 7301) (o.v 7302) r = false := by
      unfold ixB; simp only [Bool.and_eq_false_iff, beq_eq_false_iff_ne]; exact .inl fun e => h.1 e.symm
    have := h2 (by omega) hb
    show (r : Int) < (ixN _ _ _ : Nat); unfold ixN; omega
  . omega
theorem co_all (hu : OU o) : AllL o coL := by
  simp only [coL, allL_cons, allL_nil, and_true]; intro h; simp only [SS, implies_true, hu.u130]; omega
theorem slY_all (hu : OU o) {r : Nat} (hr : o.v 2121 = .i r) : AllL o slYL := by
  simp only [slYL, allL_cons, allL_nil, and_true]
  and_intros
  all_goals intro h
  all_goals simp only [SS, implies_true, hr, hu.u131] at h ⊢
  have := st_le (ix_self (l := o.v 7307) (r := r)) (n := (o.v 7307).T.length); unfold ixN; omega
theorem any_all (hu : OU o) : AllL o ss2L /\ AllL o ssL /\ AllL o slL /\ AllL o soL /\ AllL o saL := by
  simp only [ss2L, ssL, slL, soL, saL, allL_cons, allL_nil, and_true]
  and_intros
  all_goals intro h
  all_goals simp only [SS, implies_true]
theorem z6Y_all (hu : OU o) {r : Nat} (hr : o.v 2130 = .i r) (hle : (r : Int) <= ((E.uf 134 (pk [.v 7400])).den o).I) : AllL o z6YL := by
  simp only [pk, List.foldr, SS, implies_true, hu.u134] at hle; have hle : r <= gN (q7 (o.v 7400)) (o.v 7400).T.length := by omega
  simp only [z6YL, allL_cons, allL_nil, and_true]
  and_intros
  all_goals intro h
  all_goals simp only [SS, implies_true, hr, hu.u133, hu.u134, dec_iff, dec_no, Classical.not_not] at h ⊢
  . exact g_bad (r := r) (by omega) (fun q => by unfold q7 at q; omega)
  . exact g_bad (r := r) (by omega) (fun q => by unfold q7 at q; omega)
  . have := g_no hle (by omega) (by unfold q7; omega); omega
  . exact g_end hle (by omega)
theorem z6_all (hu : OU o) : AllL o z6L := by
  simp only [z6L, allL_cons, allL_nil, and_true]
  and_intros
  all_goals intro h
  all_goals simp only [SS, implies_true, hu.u133, hu.u135, dec_iff, dec_no, f_dec, t_dec, Classical.not_not, fits6] at h ⊢
  . omega
  . exact fun q => h.1 q.1
  . exact ⟨h.1, by omega⟩
theorem z5_all (hu : OU o) : AllL o z5L := by
  simp only [z5L, allL_cons, allL_nil, and_true]
  and_intros
  all_goals intro h
  all_goals simp only [SS, implies_true, hu.u135, hu.u136, dec_iff, dec_no, f_dec, t_dec, Classical.not_not, fit5] at h ⊢
  . omega
  . omega
  . omega
  . omega
  . omega
  . exact ⟨by omega, by omega, by omega, by omega, h.2.1, by omega⟩
  . exact fun q => h.1 q.2.2.2.2.1
theorem z18Y_all (hu : OU o) {r : Nat} (hr : o.v 2131 = .i r) (hle : (r : Int) <= ((E.uf 138 (pk [.v 7420])).den o).I) : AllL o z18YL := by
  simp only [pk, List.foldr, SS, implies_true, hu.u138] at hle; have hle : r <= gN (q5 (o.v 7420)) (o.v 7420).T.length := by omega
  simp only [z18YL, allL_cons, allL_nil, and_true]
  and_intros
  all_goals intro h
  all_goals simp only [SS, implies_true, hr, hu.u136, hu.u137, hu.u138, dec_iff, dec_no, Classical.not_not] at h ⊢
  . have := g_no hle (by omega) h.1; omega
  . exact g_bad (r := r) (by omega) h.1
  . exact g_end hle (by omega)
theorem z18_all (hu : OU o) : AllL o z18L := by
  simp only [z18L, allL_cons, allL_nil, and_true]
  and_intros
  all_goals intro h
  all_goals simp only [SS, implies_true, hu.u137, hu.u139, dec_iff, dec_no, f_dec, t_dec, Classical.not_not, fits18] at h ⊢
  . omega
  . exact fun q => h.1 q.1
  . exact ⟨h.1, by omega⟩
theorem z35Y_all (hu : OU o) {r : Nat} (hr : o.v 2132 = .i r) (hle : (r : Int) <= ((E.uf 141 (pk [.v 7422])).den o).I) : AllL o z35YL := by
  simp only [pk, List.foldr, SS, implies_true, hu.u141] at hle; have hle : r <= gN (q35 (o.v 7422)) (o.v 7422).T.length := by omega
  simp only [z35YL, allL_cons, allL_nil, and_true]
  and_intros
  all_goals intro h
  all_goals simp only [SS, implies_true, hr, hu.u136, hu.u139, hu.u140, hu.u141, dec_iff, dec_no, Classical.not_not] at h ⊢
  . have := g_no hle (by omega) ⟨h.2.1, h.1⟩; omega
  . exact g_bad (r := r) (by omega) (fun q => h.1 q.2)
  . exact g_bad (r := r) (by omega) (fun q => h.1 q.1)
  . exact g_end hle (by omega)
theorem z35_all (hu : OU o) : AllL o z35L := by
  simp only [z35L, allL_cons, allL_nil, and_true]
  and_intros
  all_goals intro h
  all_goals simp only [SS, implies_true, hu.u140, hu.u142, dec_iff, dec_no, f_dec, t_dec, Classical.not_not, fits35] at h ⊢
  . omega
  . exact fun q => h.1 q.1
  . exact ⟨h.1, by omega⟩
theorem dup_all (hu : OU o) {r : Nat} (hr : o.v 2133 = .i r) (hle : (r : Int) <= ((E.uf 144 (pk [.v 7430, .v 7431])).den o).I) : AllL o dupL := by
  simp only [pk, List.foldr, SS, implies_true, hu.u144] at hle; have hle : r <= gN (qd (o.v 7430) (o.v 7431)) (o.v 7430).T.length := by omega
  simp only [dupL, allL_cons, allL_nil, and_true]
  and_intros
  all_goals intro h
  all_goals simp only [SS, implies_true, hr, hu.u143, hu.u144, dec_iff, dec_no, Classical.not_not] at h ⊢
  . exact g_bad (r := r) (by omega) (fun q => q h.1)
  . have := g_no hle (by omega) h.1; omega
  . exact g_end hle (by omega)
theorem prsY_all (hu : OU o) {r : Nat} (hr : o.v 2134 = .i r) (hent : (prsY.ent 0).Hold o) (hle : (r : Int) <= ((E.uf 146 (pk [.v 7433])).den o).I) : AllL o prsYL := by
  simp only [prsY, gdT, capF, lenE, pk, List.foldr, SS, implies_true, hu.u146] at hent hle; have hle : r <= gN (qp (o.v 7433)) (o.v 7433).T.length := by omega
  simp only [prsYL, allL_cons, allL_nil, and_true]
  and_intros
  all_goals intro h
  all_goals simp only [SS, implies_true, hr, hu.u143, hu.u145, hu.u146, dec_iff, dec_no, Classical.not_not, List.length_take] at h ⊢
  . refine ⟨g_bad (r := r) (by omega) (fun q => ?_), by omega, by omega⟩
    have q3 := q.2.2; rw [List.length_take] at q3; exact h.1 q3
  . have := g_no hle (by omega) ⟨by omega, by omega, by rw [List.length_take]; exact h.1⟩
    exact ⟨by omega, by omega, by omega⟩
  . exact g_bad (r := r) (by omega) (fun q => by have := q.2.1; omega)
  . exact g_bad (r := r) (by omega) (fun q => by have := q.1; omega)
  . exact g_end hle (by omega)
theorem prs_all (hu : OU o) : AllL o prsL := by
  simp only [prsL, allL_cons, allL_nil, and_true]
  and_intros
  all_goals intro h
  all_goals simp only [SS, implies_true, hu.u145, hu.u147, dec_iff, dec_no, f_dec, t_dec, d_dec, Classical.not_not, pairsOk] at h ⊢
  . exact fun q => h q.1
  . exact ⟨fun q => ⟨h, by omega⟩, fun q => by omega⟩
theorem sh_all (hu : OU o) {r : Nat} (hr : o.v 2135 = .i r) (hle : (r : Int) <= ((E.uf 149 (pk [.v 7436])).den o).I) : AllL o shL := by
  simp only [pk, List.foldr, SS, implies_true, hu.u149] at hle; have hle : r <= gN (qs (o.v 7436)) (o.v 7436).S.size := by omega
  simp only [shL, allL_cons, allL_nil, and_true]
  and_intros
  all_goals intro h
  all_goals simp only [SS, implies_true, dI_byte, d_byte, hr, hu.u148, hu.u149, dec_iff, dec_no, Classical.not_not] at h ⊢
  . exact g_bad (r := r) (by omega) (fun q => q h.1)
  . have := g_no hle (by omega) (Q := qs (o.v 7436)) h.1; omega
  . exact g_end hle (by omega)
theorem sm_all (hu : OU o) (hent : smF.ent.Hold o) : AllL o smL := by
  simp only [smF, saysF, fitE, vE, pk, List.foldr, Nat.reduceAdd, SS, implies_true, hu.u136, dec_iff] at hent; obtain ⟨g0, g1, g2, g3, g4, g5⟩ := hent; simp only [smL, allL_cons, allL_nil, and_true]
  and_intros
  all_goals intro h
  all_goals simp only [SS, implies_true, hu.u147, hu.u148, hu.u150, dec_iff, dec_no, f_dec, t_dec, d_dec, n_dec, nil_list, Classical.not_not, small, noSl] at h ⊢
  all_goals and_intros
  all_goals try omega
  all_goals first
    | exact fun q => h q.1
    | exact fun q => h.1 q.2.1
    | exact fun q => h.1 q.2.2.2.2.2.2.2.2.1
    | exact fun q => by have := q.2.2.2.2.2.2.2.2.2.1; rw [h.1] at this; cases this
    | exact ⟨fun q => ⟨h.2.2.2.2.2.2.2.2.2, h.2.2.2.2.2.2.2.2.1, by omega, by omega, by omega, by omega, by omega, by omega, h.2.1, h.1, q⟩, fun q => q.2.2.2.2.2.2.2.2.2.2⟩
theorem smsY_all (hu : OU o) {r : Nat} (hr : o.v 2136 = .i r) (hent : (smsY.ent 0).Hold o) (hle : (r : Int) <= ((E.uf 152 (pk [.v 7450])).den o).I) : AllL o smsYL := by
  simp only [smsY, gdT, pk, List.foldr, SS, implies_true, hu.u139, hu.u152, dec_iff] at hent hle; have hle : r <= gN (qsm (o.v 7450)) (o.v 7450).T.length := by omega
  obtain ⟨f1, f2⟩ := hent; simp only [smsYL, allL_cons, allL_nil, and_true]
  and_intros
  all_goals intro h
  all_goals simp only [SS, implies_true, hr, hu.u136, hu.u150, hu.u151, hu.u152, dec_iff, dec_no, Classical.not_not] at h ⊢
  . have := g_no hle (by omega) h.1
    exact ⟨by omega, by omega, f1 r (by omega)⟩
  . exact ⟨g_bad (r := r) (by omega) h.1, f1 r (by omega)⟩
  . exact g_end hle (by omega)
theorem sms_all (hu : OU o) : AllL o smsL := by
  simp only [smsL, allL_cons, allL_nil, and_true]
  and_intros
  all_goals intro h
  all_goals simp only [SS, implies_true, hu.u151, hu.u153, dec_iff, dec_no, f_dec, t_dec, d_dec, Classical.not_not, smalls] at h ⊢
  . exact fun q => h q.1
  . exact ⟨fun q => ⟨h, by omega⟩, fun q => by omega⟩
theorem exY_all (hu : OU o) {r : Nat} (hr : o.v 2137 = .i r) (hent : (exY.ent 0).Hold o) (hle : (r : Int) <= ((E.uf 155 (pk [.v 7452])).den o).I) : AllL o exYL := by
  simp only [exY, gdT, pk, List.foldr, SS, implies_true, hu.u142, hu.u155, dec_iff] at hent hle; have hle : r <= gN (qex (o.v 7452)) (o.v 7452).T.length := by omega
  obtain ⟨f1, f2⟩ := hent; simp only [exYL, allL_cons, allL_nil, and_true]
  and_intros
  all_goals intro h
  all_goals simp only [SS, implies_true, hr, hu.u136, hu.u139, hu.u150, hu.u153, hu.u154, hu.u155, dec_iff, dec_no, Classical.not_not] at h ⊢
  all_goals first
    | exact g_end hle (by omega)
    | (have f3 := f1 r (by omega); and_intros)
  all_goals try first
    | omega
    | exact f3.2.1 | exact f3.2.2 | exact f3.1.1 | exact f3.1.2.1 | exact f3.1.2.2.1 | exact f3.1.2.2.2.1 | exact f3.1.2.2.2.2.1.1 | exact f3.1.2.2.2.2.1.2 | exact f3.1.2.2.2.2.2
    | exact g_bad (r := r) (by omega) (fun q => by have := q.1; omega)
    | exact g_bad (r := r) (by omega) (fun q => by have := q.2.1; omega)
    | exact g_bad (r := r) (by omega) (fun q => by have := q.2.2.2.2; omega)
    | exact g_bad (r := r) (by omega) (fun q => h.1 q.2.2.1)
    | exact g_bad (r := r) (by omega) (fun q => h.1 q.2.2.2.1)
  all_goals have := g_no hle (by omega) ⟨by omega, by omega, h.2.2.2.1, h.2.2.1, by omega, by omega⟩
  all_goals omega
theorem ex_all (hu : OU o) : AllL o exL := by
  simp only [exL, allL_cons, allL_nil, and_true]
  and_intros
  all_goals intro h
  all_goals simp only [SS, implies_true, hu.u154, hu.u156, dec_iff, dec_no, f_dec, t_dec, d_dec, Classical.not_not, exGood] at h ⊢
  . exact fun q => h q.1
  . exact ⟨fun q => ⟨h, by omega⟩, fun q => by omega⟩
end
section
variable {o : Env}
theorem ixY_c : Cnt1 Tryz.prog ixY (ixE (.v 7300) (.v 7301) (.v 7302)) ixL := ⟨by kernel_rfl, by kernel_rfl, rfl, by kernel_rfl, rfl, fun m h => m0_of h, fun m h => m0_of h, fun _ => rfl⟩
theorem ixY_ok (hu : OU o) : LpOk Tryz.prog o fIndex 2 ixY.lpP :=
  ixY_c.ok plain mixed (fun e he h => by
    simp only [ixE, pk, List.foldr, SS, implies_true, (hu.like he).u130]
    omega) (fun _ _ _ => extOk_none) (fun e i he h hr hl => ix_all (hu.like he) hr h hl)
theorem coF_o : coF.obl Tryz.prog = some coL := by kernel_rfl
theorem coF_ok (hu : OU o) : FnOk Tryz.prog o fContains coF.funP :=
  fun_by plain mixed (D := coF) coF_o (fun e A he => ctr_ok (c := ⟨[], [(fIndex, 2, ixY.lpP)]⟩) (by kernel_rfl) trivial ⟨ixY_ok (hu.like he), trivial⟩ A) (fun e he h => co_all (hu.like he))
theorem slY_c : Cnt1 Tryz.prog slY (lenE (.v 7307)) slYL := ⟨by kernel_rfl, by kernel_rfl, rfl, by kernel_rfl, rfl, fun m h => m0_of h, fun m h => m0_of h, fun _ => rfl⟩
theorem slY_ok (hu : OU o) : LpOk Tryz.prog o fSameLabels 4 slY.lpP :=
  slY_c.ok plain mixed (fun o _ _ => nn_len o) (fun e A he => ctr_ok (c := ⟨[(fContains, coF.funP)], []⟩) (by kernel_rfl) ⟨coF_ok (hu.like he), trivial⟩ trivial A) (fun e i he h hr hl => slY_all (hu.like he) hr)
theorem slF_o : slF.obl Tryz.prog = some slL := by kernel_rfl
theorem slF_ok (hu : OU o) : FnOk Tryz.prog o fSameLabels slF.funP :=
  fun_by plain mixed (D := slF) slF_o (fun e A he => ctr_ok (c := ⟨[], [(fSameLabels, 4, slY.lpP)]⟩) (by kernel_rfl) trivial ⟨slY_ok (hu.like he), trivial⟩ A) (fun e he h => (any_all (hu.like he)).2.2.1)
theorem soF_o : soF.obl Tryz.prog = some soL := by kernel_rfl
theorem soF_ok (hu : OU o) : FnOk Tryz.prog o fSameObj soF.funP :=
  fun_by plain mixed (D := soF) soF_o (fun e A he => ctr_ok (c := ⟨[(fSameLabels, slF.funP)], []⟩) (by kernel_rfl) ⟨slF_ok (hu.like he), trivial⟩ trivial A) (fun e he h => (any_all (hu.like he)).2.2.2.1)
theorem z6Y_c : Cnt1 Tryz.prog z6Y (.uf 134 (pk [.v 7400])) z6YL := ⟨by kernel_rfl, by kernel_rfl, rfl, by kernel_rfl, rfl, fun m h => m0_of h, fun m h => m0_of h, fun _ => rfl⟩
theorem z6Y_ok (hu : OU o) : LpOk Tryz.prog o fZz6 4 z6Y.lpP :=
  z6Y_c.ok plain mixed (fun e he h => by simp only [pk, List.foldr, SS, implies_true, (hu.like he).u134]; omega) (fun _ _ _ => extOk_none) (fun e i he h hr hl => z6Y_all (hu.like he) hr hl)
theorem z6F_o : z6F.obl Tryz.prog = some z6L := by kernel_rfl
theorem z6F_ok (hu : OU o) : FnOk Tryz.prog o fZz6 z6F.funP :=
  fun_by plain mixed (D := z6F) z6F_o (fun e A he => ctr_ok (c := ⟨[], [(fZz6, 4, z6Y.lpP)]⟩) (by kernel_rfl) trivial ⟨z6Y_ok (hu.like he), trivial⟩ A) (fun e he h => z6_all (hu.like he))
theorem z5F_o : z5F.obl Tryz.prog = some z5L := by kernel_rfl
theorem z5F_ok (hu : OU o) : FnOk Tryz.prog o fZz5 z5F.funP :=
  fun_by plain mixed (D := z5F) z5F_o (fun e A he => ctr_ok (c := ⟨[(fZz6, z6F.funP)], []⟩) (by kernel_rfl) ⟨z6F_ok (hu.like he), trivial⟩ trivial A) (fun e he h => z5_all (hu.like he))
theorem z18Y_c : Cnt1 Tryz.prog z18Y (.uf 138 (pk [.v 7420])) z18YL := ⟨by kernel_rfl, by kernel_rfl, rfl, by kernel_rfl, rfl, fun m h => m0_of h, fun m h => m0_of h, fun _ => rfl⟩
theorem z18Y_ok (hu : OU o) : LpOk Tryz.prog o fZz18 4 z18Y.lpP :=
  z18Y_c.ok plain mixed (fun e he h => by simp only [pk, List.foldr, SS, implies_true, (hu.like he).u138]; omega) (fun e A he => ctr_ok (c := ⟨[(fZz5, z5F.funP)], []⟩) (by kernel_rfl) ⟨z5F_ok (hu.like he), trivial⟩ trivial A) (fun e i he h hr hl => z18Y_all (hu.like he) hr hl)
theorem z18F_o : z18F.obl Tryz.prog = some z18L := by kernel_rfl
theorem z18F_ok (hu : OU o) : FnOk Tryz.prog o fZz18 z18F.funP :=
  fun_by plain mixed (D := z18F) z18F_o (fun e A he => ctr_ok (c := ⟨[], [(fZz18, 4, z18Y.lpP)]⟩) (by kernel_rfl) trivial ⟨z18Y_ok (hu.like he), trivial⟩ A) (fun e he h => z18_all (hu.like he))
theorem z35Y_c : Cnt1 Tryz.prog z35Y (.uf 141 (pk [.v 7422])) z35YL := ⟨by kernel_rfl, by kernel_rfl, rfl, by kernel_rfl, rfl, fun m h => m0_of h, fun m h => m0_of h, fun _ => rfl⟩
theorem z35Y_ok (hu : OU o) : LpOk Tryz.prog o fZz35 4 z35Y.lpP :=
  z35Y_c.ok plain mixed (fun e he h => by simp only [pk, List.foldr, SS, implies_true, (hu.like he).u141]; omega) (fun e A he => ctr_ok (c := ⟨[(fZz5, z5F.funP), (fZz18, z18F.funP)], []⟩) (by kernel_rfl) ⟨z5F_ok (hu.like he), z18F_ok (hu.like he), trivial⟩ trivial A) (fun e i he h hr hl => z35Y_all (hu.like he) hr hl)
theorem z35F_o : z35F.obl Tryz.prog = some z35L := by kernel_rfl
theorem z35F_ok (hu : OU o) : FnOk Tryz.prog o fZz35 z35F.funP :=
  fun_by plain mixed (D := z35F) z35F_o (fun e A he => ctr_ok (c := ⟨[], [(fZz35, 4, z35Y.lpP)]⟩) (by kernel_rfl) trivial ⟨z35Y_ok (hu.like he), trivial⟩ A) (fun e he h => z35_all (hu.like he))
theorem dupY_c : Cnt1 Tryz.prog dupY (.uf 144 (pk [.v 7430, .v 7431])) dupL := ⟨by kernel_rfl, by kernel_rfl, rfl, by kernel_rfl, rfl, fun m h => m0_of h, fun m h => m0_of h, fun _ => rfl⟩
theorem dupY_ok (hu : OU o) : LpOk Tryz.prog o fPairs 7 dupY.lpP :=
  dupY_c.ok plain mixed (fun e he h => by simp only [pk, List.foldr, SS, implies_true, (hu.like he).u144]; omega) (fun _ _ _ => extOk_none) (fun e i he h hr hl => dup_all (hu.like he) hr hl)
theorem prsY_c : Cnt1 Tryz.prog prsY (.uf 146 (pk [.v 7433])) prsYL := ⟨by kernel_rfl, by kernel_rfl, rfl, by kernel_rfl, rfl, fun m h => m0_of h, fun m h => m0_of h, fun _ => rfl⟩
theorem prsY_ok (hu : OU o) : LpOk Tryz.prog o fPairs 2 prsY.lpP :=
  prsY_c.ok plain mixed (fun e he h => by simp only [pk, List.foldr, SS, implies_true, (hu.like he).u146]; omega) (fun e A he => ctr_ok (c := ⟨[], [(fPairs, 7, dupY.lpP)]⟩) (by kernel_rfl) trivial ⟨dupY_ok (hu.like he), trivial⟩ A) (fun e i he h hr hl => prsY_all (hu.like he) hr h hl)
theorem prsF_o : prsF.obl Tryz.prog = some prsL := by kernel_rfl
theorem prsF_ok (hu : OU o) : FnOk Tryz.prog o fPairs prsF.funP :=
  fun_by plain mixed (D := prsF) prsF_o (fun e A he => ctr_ok (c := ⟨[], [(fPairs, 2, prsY.lpP)]⟩) (by kernel_rfl) trivial ⟨prsY_ok (hu.like he), trivial⟩ A) (fun e he h => prs_all (hu.like he))
theorem shY_c : Cnt1 Tryz.prog shY (.uf 149 (pk [.v 7436])) shL := ⟨by kernel_rfl, by kernel_rfl, rfl, by kernel_rfl, rfl, fun m h => m0_of h, fun m h => m0_of h, fun _ => rfl⟩
theorem shY_ok (hu : OU o) : LpOk Tryz.prog o fSmObj 5 shY.lpP :=
  shY_c.ok plain mixed (fun e he h => by simp only [pk, List.foldr, SS, implies_true, (hu.like he).u149]; omega) (fun _ _ _ => extOk_none) (fun e i he h hr hl => sh_all (hu.like he) hr hl)
theorem smF_o : smF.obl Tryz.prog = some smL := by kernel_rfl
theorem smF_ok (hu : OU o) : FnOk Tryz.prog o fSmObj smF.funP :=
  fun_by plain mixed (D := smF) smF_o (fun e A he => ctr_ok (c := ⟨[(fPairs, prsF.funP)], [(fSmObj, 5, shY.lpP)]⟩) (by kernel_rfl) ⟨prsF_ok (hu.like he), trivial⟩ ⟨shY_ok (hu.like he), trivial⟩ A) (fun e he h => sm_all (hu.like he) h)
theorem smsY_c : Cnt1 Tryz.prog smsY (.uf 152 (pk [.v 7450])) smsYL := ⟨by kernel_rfl, by kernel_rfl, rfl, by kernel_rfl, rfl, fun m h => m0_of h, fun m h => m0_of h, fun _ => rfl⟩
theorem smsY_ok (hu : OU o) : LpOk Tryz.prog o fSmObjs 2 smsY.lpP :=
  smsY_c.ok plain mixed (fun e he h => by simp only [pk, List.foldr, SS, implies_true, (hu.like he).u152]; omega) (fun e A he => ctr_ok (c := ⟨[(fSmObj, smF.funP)], []⟩) (by kernel_rfl) ⟨smF_ok (hu.like he), trivial⟩ trivial A) (fun e i he h hr hl => smsY_all (hu.like he) hr h hl)
theorem smsF_o : smsF.obl Tryz.prog = some smsL := by kernel_rfl
theorem smsF_ok (hu : OU o) : FnOk Tryz.prog o fSmObjs smsF.funP :=
  fun_by plain mixed (D := smsF) smsF_o (fun e A he => ctr_ok (c := ⟨[], [(fSmObjs, 2, smsY.lpP)]⟩) (by kernel_rfl) trivial ⟨smsY_ok (hu.like he), trivial⟩ A) (fun e he h => sms_all (hu.like he))
theorem exY_c : Cnt1 Tryz.prog exY (.uf 155 (pk [.v 7452])) exYL := ⟨by kernel_rfl, by kernel_rfl, rfl, by kernel_rfl, rfl, fun m h => m0_of h, fun m h => m0_of h, fun _ => rfl⟩
theorem exY_ok (hu : OU o) : LpOk Tryz.prog o fExOps 2 exY.lpP :=
  exY_c.ok plain mixed (fun e he h => by simp only [pk, List.foldr, SS, implies_true, (hu.like he).u155]; omega) (fun e A he => ctr_ok (c := ⟨[(fSmObj, smF.funP), (fSmObjs, smsF.funP)], []⟩) (by kernel_rfl) ⟨smF_ok (hu.like he), smsF_ok (hu.like he), trivial⟩ trivial A) (fun e i he h hr hl => exY_all (hu.like he) hr h hl)
theorem exF_o : exF.obl Tryz.prog = some exL := by kernel_rfl
theorem exF_ok (hu : OU o) : FnOk Tryz.prog o fExOps exF.funP :=
  fun_by plain mixed (D := exF) exF_o (fun e A he => ctr_ok (c := ⟨[], [(fExOps, 2, exY.lpP)]⟩) (by kernel_rfl) trivial ⟨exY_ok (hu.like he), trivial⟩ A) (fun e he h => ex_all (hu.like he))
end
end Go.Proofs.YtdlppkhmmclipaaGreat.sxObj

