/-
  OBJECTS: the contracts of sorting, and of reading them out.
-/
import Derived.Test.YtdlppkhmmclipaaGreatSxObA
namespace Go.Proofs.YtdlppkhmmclipaaGreat.sxObj
open Go.Sx Go.RowKit Go.Proofs.YtdlppkhmmclipaaGreat
set_option linter.unusedVariables false
def cmpV : SV := .fn (.func fCmp) [] []
def iS (e : E) : SV := .int .i64 e
def maxF (l : E) : E × Bool := (.o2 .le (lenE l) (.il 1000000), true)
def srtF (l : E) : Facts := [(.uf 112 (pk [l]), true), (okL l, true), maxF l]
def leT (a b : E) : E × Bool := (.o2 .le a b, true)
def ltT (a b : E) : E × Bool := (.o2 .lt a b, true)
def cmpF : FunY where
  f := fCmp
  args := [.agg (obj8 (vE 7260)), .agg (obj8 (vE 7270))]
  params := rgN 7260 7268 ++ rgN 7270 7278
  ent := [(okO (vE 7260), true), (okO (vE 7270), true), (.v 7266, false), (.v 7276, false), (.o2 .slt (keyE (vE 7260)) (keyE (vE 7270)), false)]
  app := fun _ => true
  exits := [(.o2 .slt (keyE (vE 7270)) (keyE (vE 7260)), 1), (.bl true, 0)]
  kind := fun r => match r with | .int _ (.il 1) => some 1 | .int _ (.il 0) => some 0 | _ => none
  out := fun n => match n with | 0 => iS (.il 0) | _ => iS (.il 1)
  X := (⟨[(fKeyOf, keyOfF.funP)], []⟩ : Ctr).x
  fuel := 300; np := 80
def cCmp : Ctr := ⟨[(fCmp, cmpF.funP)], []⟩
def insEnt : Facts := srtF (.v 7200) ++ [leT (.il 0) (.v 7201), leT (.v 7201) (.v 7202), leT (.v 7202) (lenE (.v 7200))]
def insY : LoopY where
  f := fInsCmp; key := 1; N := 53; r := 2110; base := 115000
  js := [9] ++ rgN 12 53
  hd := fun _ => ⟨[(0, .dsl objK (.v 7200)), (1, iS (.v 7201)), (2, iS (.v 7202)), (3, cmpV), (8, iS (.o2 .add (.o2 .add (.v 7201) (.il 1)) (.v 2110)))], [], 9,
    leT (.il 0) (.v 2110) :: leT (.v 2110) (.o2 .sub (.v 7202) (.v 7201)) :: insEnt⟩
  ent := fun _ => insEnt
  app := fun _ => true
  ok0 := fun m => Nat.beq m 0
  modeL := fun _ => .ret 0
  tgt := fun m => Nat.beq m 0
  mf := fun _ => []
  hx := fun _ => ⟨[(0, .top), (1, .top), (2, .top), (3, .top), (8, .top)], [], 9, []⟩
  xmL := fun _ _ => .ret 0
  exN := fun _ => .exit 0
  exits := [(.bl true, 0)]
  fixed := []
  lt := .o2 .lt (.v 2110) (.o2 .sub (.v 7202) (.v 7201))
  X := cCmp.x
  fuel := 400; np := 80
  params := [7200, 7201, 7202]
def insF : FunY where
  f := fInsCmp
  args := [.dsl objK (.v 7205), iS (.v 7206), iS (.v 7207), cmpV]
  params := [7205, 7206, 7207]
  ent := srtF (.v 7205) ++ [leT (.il 0) (.v 7206), leT (.v 7206) (.v 7207), leT (.v 7207) (lenE (.v 7205))]
  app := fun _ => true
  exits := [(.bl true, 0)]
  kind := fun _ => some 0
  out := fun _ => .tup []
  X := (⟨[], [(fInsCmp, 1, insY.lpP)]⟩ : Ctr).x
  fuel := 400; np := 80
def dnA (r : E) : E := .uf 121 (pk [.v 7212, .v 7213, r])
def smEnt (l a m b : Nat) : Facts := srtF (.v l) ++ [leT (.il 0) (.v a), ltT (.v a) (.v m), ltT (.v m) (.v b), leT (.v b) (lenE (.v l))]
def sm2Ent (l a m : Nat) : Facts := srtF (.v l) ++ [leT (.il 0) (.v a), ltT (.v a) (.v m), ltT (.v m) (lenE (.v l))]
def sm1Y : LoopY where
  f := fSymMerge; key := 3; N := 220; r := 2111; base := 116000
  js := [12] ++ rgN 31 54
  hd := fun _ => ⟨[(0, .dsl objK (.v 7210)), (1, iS (.v 7211)), (4, cmpV), (10, iS (.v 7212)), (11, iS (dnA (.v 2111)))], [], 9,
    leT (.il 0) (.v 2111) :: leT (.v 2111) (.o2 .sub (.v 7213) (.v 7212)) :: smEnt 7210 7211 7212 7213⟩
  ent := fun _ => smEnt 7210 7211 7212 7213
  app := fun _ => true
  ok0 := fun m => Nat.beq m 0
  modeL := fun _ => .ret 0
  tgt := fun m => Nat.beq m 0
  mf := fun _ => []
  hx := fun _ => ⟨[(0, .dsl objK (.v 7210)), (1, iS (.v 7211)), (4, .top), (10, iS (.v 7212)), (11, .top)], [], 9, []⟩
  xmL := fun _ _ => .ret 0
  exN := fun _ => .exit 0
  exits := [(.bl true, 0)]
  fixed := []
  lt := .o2 .lt (.v 2111) (.o2 .sub (.v 7213) (.v 7212))
  X := cCmp.x
  fuel := 400; np := 80
  params := [7210, 7211, 7212, 7213]
  pins := fun sl => match nth sl 11 with | some (.int _ e) => [(7213, e)] | _ => []
def upA (r : E) : E := .uf 122 (pk [.v 7216, .v 7217, r])
def sm2Y : LoopY where
  f := fSymMerge; key := 15; N := 220; r := 2112; base := 117000
  js := [16] ++ rgN 83 107
  hd := fun _ => ⟨[(0, .dsl objK (.v 7215)), (2, iS (.v 7217)), (4, cmpV), (14, iS (upA (.v 2112))), (15, iS (.v 7217))], [], 9,
    leT (.il 0) (.v 2112) :: leT (.v 2112) (.o2 .sub (.v 7217) (.v 7216)) :: sm2Ent 7215 7216 7217⟩
  ent := fun _ => sm2Ent 7215 7216 7217
  app := fun _ => true
  ok0 := fun m => Nat.beq m 0
  modeL := fun _ => .ret 0
  tgt := fun m => Nat.beq m 0
  mf := fun _ => []
  hx := fun _ => ⟨[(0, .dsl objK (.v 7215)), (2, iS (.v 7217)), (4, .top), (14, iS (.v 7217)), (15, .top)], [], 9, []⟩
  xmL := fun _ _ => .ret 0
  exN := fun _ => .exit 4
  exits := [(.bl true, 0)]
  fixed := []
  lt := .o2 .lt (.v 2112) (.o2 .sub (.v 7217) (.v 7216))
  X := cCmp.x
  fuel := 400; np := 80
  params := [7215, 7216, 7217]
  pins := fun sl => match nth sl 14 with | some (.int _ e) => [(7216, e)] | _ => []
def up3 (r : E) : E := .uf 122 (pk [.v 7221, .v 7222, r])
def s3Ent : Facts := srtF (.v 7220) ++ [leT (.il 0) (.v 7221), leT (.v 7221) (.v 7222), ltT (.o2 .sub (.v 7223) (.v 7221)) (lenE (.v 7220)), leT (.o2 .mul (.il 2) (.v 7222)) (.o2 .add (.v 7223) (.il 1))]
def sm3Y : LoopY where
  f := fSymMerge; key := 33; N := 220; r := 2113; base := 118000
  js := [23] ++ rgN 149 175
  hd := fun _ => ⟨[(0, .dsl objK (.v 7220)), (4, cmpV), (20, iS (up3 (.v 2113))), (21, iS (.v 7222)), (22, iS (.v 7223))], [], 9,
    leT (.il 0) (.v 2113) :: leT (.v 2113) (.o2 .sub (.v 7222) (.v 7221)) :: s3Ent⟩
  ent := fun _ => s3Ent
  app := fun _ => true
  ok0 := fun m => Nat.beq m 0
  modeL := fun _ => .ret 0
  tgt := fun m => Nat.beq m 0
  mf := fun _ => []
  hx := fun _ => ⟨[(0, .dsl objK (.v 7220)), (4, cmpV), (20, iS (.v 7222)), (21, .top), (22, iS (.v 7223))], [], 9, []⟩
  xmL := fun _ _ => .ret 0
  exN := fun _ => .exit 8
  exits := [(.bl true, 0)]
  fixed := []
  lt := .o2 .lt (.v 2113) (.o2 .sub (.v 7222) (.v 7221))
  X := cCmp.x
  fuel := 400; np := 80
  params := [7220, 7221, 7222, 7223]
  pins := fun sl => match nth sl 20 with | some (.int _ e) => [(7221, e)] | _ => []
def symF : FunY where
  f := fSymMerge
  args := [.dsl objK (.v 7225), iS (.v 7226), iS (.v 7227), iS (.v 7228), cmpV]
  params := [7225, 7226, 7227, 7228]
  ent := smEnt 7225 7226 7227 7228
  app := fun args => match args with | [_, .int _ (.v 7226), .int _ (.v 7227), .int _ (.v 7228), _] => false | _ => true
  exits := [(.bl true, 0)]
  kind := fun _ => some 0
  out := fun _ => .tup []
  X := XCtr.none
  fuel := 600; np := 80
def symSz : E := .o2 .sub (.v 7228) (.v 7226)
def neverP (args : List SV) (nx : Nat) : Option (Prog (SV × Nat)) := some (.fail "never")
def symC : Ctr := ⟨[(fRotate, neverP), (fSymMerge, (FunY.recOut symF 7229 symSz).funP)], [(fSymMerge, 3, sm1Y.lpP), (fSymMerge, 15, sm2Y.lpP), (fSymMerge, 33, sm3Y.lpP)]⟩
def symR : FunY := FunY.recIn symF 7229 symSz symC.x.dies
def stEnt (l n : Nat) : Facts := srtF (.v l) ++ [(.o2 .ieq (.v n) (lenE (.v l)), true)]
def twenty (e : E) : E := .o2 .mul (.il 20) e
def st1Y : LoopY where
  f := fStabCmp; key := 2; N := 63; r := 2114; base := 119000
  js := rgN 11 23
  hd := fun _ => ⟨[(0, .dsl objK (.v 7230)), (1, iS (.v 7231)), (2, cmpV), (6, iS (.il 20)), (7, iS (twenty (.v 2114))), (8, iS (.o2 .add (twenty (.v 2114)) (.il 20)))], [], 9,
    leT (.il 0) (.v 2114) :: leT (.v 2114) (.o2 .quo (.v 7231) (.il 20)) :: stEnt 7230 7231⟩
  ent := fun _ => stEnt 7230 7231
  app := fun _ => true
  ok0 := fun m => Nat.beq m 0
  modeL := fun _ => .ret 0
  tgt := fun m => Nat.beq m 0
  mf := fun _ => []
  hx := fun _ => ⟨[(0, .dsl objK (.v 7230)), (1, iS (.v 7231)), (2, cmpV), (6, iS (.il 20)), (7, iS (twenty (.o2 .quo (.v 7231) (.il 20)))), (8, .top)], [], 9, []⟩
  xmL := fun _ _ => .ret 0
  exN := fun _ => .exit 0
  exits := [(.bl true, 0)]
  fixed := []
  lt := .o2 .lt (.v 2114) (.o2 .quo (.v 7231) (.il 20))
  X := (⟨[(fInsCmp, insF.funP)], []⟩ : Ctr).x
  fuel := 400; np := 80
  params := [7230, 7231]
def tw (e : E) : E := .o2 .mul (.o2 .mul (.il 2) (.v 7236)) e
def st3Ent : Facts := stEnt 7234 7235 ++ [leT (.il 20) (.v 7236), ltT (.v 7236) (.v 7235)]
def quoW : E := .o2 .quo (.v 7235) (.o2 .mul (.il 2) (.v 7236))
def st3Y : LoopY where
  f := fStabCmp; key := 9; N := 63; r := 2115; base := 120000
  js := rgN 33 49
  hd := fun _ => ⟨[(0, .dsl objK (.v 7234)), (1, iS (.v 7235)), (2, cmpV), (6, iS (.v 7236)), (7, iS (tw (.v 2115))), (8, iS (.o2 .add (tw (.v 2115)) (.o2 .mul (.il 2) (.v 7236))))], [], 9,
    leT (.il 0) (.v 2115) :: leT (.v 2115) quoW :: st3Ent⟩
  ent := fun _ => st3Ent
  app := fun _ => true
  ok0 := fun m => Nat.beq m 0
  modeL := fun _ => .ret 0
  tgt := fun m => Nat.beq m 0
  mf := fun _ => []
  hx := fun _ => ⟨[(0, .dsl objK (.v 7234)), (1, iS (.v 7235)), (2, cmpV), (6, iS (.v 7236)), (7, iS (tw quoW)), (8, .top)], [], 9, []⟩
  xmL := fun _ _ => .ret 0
  exN := fun _ => .exit 4
  exits := [(.bl true, 0)]
  fixed := []
  lt := .o2 .lt (.v 2115) quoW
  X := (⟨[(fSymMerge, symF.funP)], []⟩ : Ctr).x
  fuel := 400; np := 80
  params := [7234, 7235, 7236]
def bsE (r : E) : E := .uf 123 (pk [r])
def st2Y : LoopY where
  f := fStabCmp; key := 7; N := 63; r := 2116; base := 121000
  js := [7, 8, 9] ++ rgN 28 63
  hd := fun _ => ⟨[(0, .dsl objK (.v 7240)), (1, iS (.v 7241)), (2, cmpV), (6, iS (bsE (.v 2116)))], [], 9,
    leT (.il 0) (.v 2116) :: leT (.v 2116) (.v 7241) :: stEnt 7240 7241⟩
  ent := fun _ => stEnt 7240 7241
  app := fun _ => true
  ok0 := fun m => Nat.beq m 0
  modeL := fun _ => .ret 0
  tgt := fun m => Nat.beq m 0
  mf := fun _ => []
  hx := fun _ => ⟨[(0, .top), (1, .top), (2, .top), (6, .top)], [], 9, []⟩
  xmL := fun _ _ => .ret 0
  exN := fun _ => .exit 2
  exits := [(.bl true, 0)]
  fixed := []
  lt := .o2 .lt (.v 2116) (.v 7241)
  X := (⟨[(fSymMerge, symF.funP)], [(fStabCmp, 9, st3Y.lpP)]⟩ : Ctr).x
  fuel := 400; np := 80
  params := [7240, 7241]
def byKeysF : FunY where
  f := fByKeys
  args := [.dsl objK (.v 7245)]
  params := [7245]
  ent := srtF (.v 7245)
  app := fun _ => true
  exits := [(.bl true, 0)]
  kind := fun _ => some 0
  out := fun _ => .dsl objK (.v 7245)
  X := (⟨[(fInsCmp, insF.funP)], [(fStabCmp, 2, st1Y.lpP), (fStabCmp, 7, st2Y.lpP)]⟩ : Ctr).x
  fuel := 400; np := 80
def okA (l : E) : E := .uf 113 (pk [l])
def objsOutY : LoopY := mapT fObjsOut 3 21 2117 (rgN 5 19) [(0, .dsl aK (.v 7250))] 3 4 tIObj objK (.uf 102 (pk [.v 7250])) (lenE (.v 7250)) [(okA (.v 7250), true), maxF (.v 7250)] [7250] (⟨[(fObjOut, objOutF.funP)], []⟩ : Ctr).x 0
def objsOutF : FunY where
  f := fObjsOut
  args := [.dsl aK (.v 7251)]
  params := [7251]
  ent := [(okA (.v 7251), true), maxF (.v 7251)]
  app := fun _ => true
  exits := [(.bl true, 0)]
  kind := fun _ => some 0
  out := fun _ => .dsl objK (.uf 102 (pk [.v 7251]))
  X := (⟨[(fByKeys, byKeysF.funP)], [(fObjsOut, 3, objsOutY.lpP)]⟩ : Ctr).x
  fuel := 400; np := 80
end Go.Proofs.YtdlppkhmmclipaaGreat.sxObj
namespace Go.Proofs.YtdlppkhmmclipaaGreat.sxObj
open Go.Sx
set_option linter.unusedVariables false
abbrev oc0 : E := .o2 .slt (.uf 100 (.o2 .cel (.v 7270) (.o2 .cel (.v 7271) (.il 0)))) (.uf 100 (.o2 .cel (.v 7260) (.o2 .cel (.v 7261) (.il 0))))
def cmpL : List (Facts × List Ob) :=
  [([(oc0, true)],
    []),
   ([(oc0, false)],
    [])]
abbrev oc1 : E := .o2 .add (.o2 .add (.v 7201) (.il 1)) (.v 2110)
abbrev oc2 : E := .o2 .sub oc1 (.il 1)
abbrev oc3 : E := .o2 (.cell 0) (.v 7200) oc2
abbrev oc4 : E := .o2 (.cell 1) (.v 7200) oc2
abbrev oc5 : E := .uf 100 (.o2 .cel oc3 (.o2 .cel oc4 (.il 0)))
abbrev oc6 : E := .o2 (.cell 0) (.v 7200) oc1
abbrev oc7 : E := .o2 (.cell 1) (.v 7200) oc1
abbrev oc8 : E := .uf 100 (.o2 .cel oc6 (.o2 .cel oc7 (.il 0)))
abbrev oc9 : E := .o2 .slt oc5 oc8
abbrev oc10 : E := .o2 .lt (.v 7201) oc1
abbrev oc11 : E := .o2 .lt oc1 (.v 7202)
abbrev oc12 : Facts := [(oc11, true)]
abbrev oc13 : Facts := ((oc10, true) : E × Bool) :: oc12
abbrev oc14 : List Ob := [(.e (.o2 .ieq (.o2 .add oc1 (.il 1)) (.o2 .add (.o2 .add (.v 7201) (.il 1)) (.o2 .add (.v 2110) (.il 1)))))]
abbrev oc15 : List Ob := ((.e (.o2 .lt (.v 2110) (.o2 .sub (.v 7202) (.v 7201)))) : Ob) :: ((.e (.o1 .not (.o2 .slt oc8 oc5))) : Ob) :: ((.e (.o1 .not (.o2 (.cell 6) (.v 7200) oc2))) : Ob) :: ((.e (.o1 .not (.o2 (.cell 6) (.v 7200) oc1))) : Ob) :: ((.e (.uf 110 (.o2 .cel oc3 (.o2 .cel oc4 (.o2 .cel (.o2 (.cell 4) (.v 7200) oc2) (.il 0)))))) : Ob) :: ((.e (.uf 110 (.o2 .cel oc6 (.o2 .cel oc7 (.o2 .cel (.o2 (.cell 4) (.v 7200) oc1) (.il 0)))))) : Ob) :: ((.e (.o2 .lt oc2 (.o1 .tlen (.v 7200)))) : Ob) :: ((.e (.o2 .lt oc1 (.o1 .tlen (.v 7200)))) : Ob) :: oc14
def insL : List (Facts × List Ob) :=
  [((((oc9, true) : E × Bool) :: oc13),
    oc15),
   ((((oc9, false) : E × Bool) :: oc13),
    oc15),
   ((((oc10, false) : E × Bool) :: oc12),
    (((.e (.o2 .lt (.v 2110) (.o2 .sub (.v 7202) (.v 7201)))) : Ob) :: oc14)),
   ([(oc11, false)],
    [])]
def insFL : List (Facts × List Ob) :=
  [([],
    [])]
abbrev oc16 : E := .uf 100 (.o2 .cel (.o2 (.cell 0) (.v 7210) (.v 7211)) (.o2 .cel (.o2 (.cell 1) (.v 7210) (.v 7211)) (.il 0)))
abbrev oc17 : E := .uf 121 (.o2 .cel (.v 7212) (.o2 .cel (.v 7213) (.o2 .cel (.v 2111) (.il 0))))
abbrev oc18 : E := .o2 .add (.v 7212) oc17
abbrev oc19 : E := .o2 .quo oc18 (.il 2)
abbrev oc20 : E := .o2 (.cell 0) (.v 7210) oc19
abbrev oc21 : E := .o2 (.cell 1) (.v 7210) oc19
abbrev oc22 : E := .uf 100 (.o2 .cel oc20 (.o2 .cel oc21 (.il 0)))
abbrev oc23 : E := .o2 .slt oc16 oc22
abbrev oc24 : E := .o2 .lt (.v 7212) oc17
abbrev oc25 : Facts := [(oc24, true)]
abbrev oc26 : List Ob := [(.e (.o2 .lt (.v 2111) (.o2 .sub (.v 7213) (.v 7212)))), (.e (.o1 .not (.o2 .slt oc22 oc16))), (.e (.o1 .not (.o2 (.cell 6) (.v 7210) (.v 7211)))), (.e (.o1 .not (.o2 (.cell 6) (.v 7210) oc19))), (.e (.uf 110 (.o2 .cel (.o2 (.cell 0) (.v 7210) (.v 7211)) (.o2 .cel (.o2 (.cell 1) (.v 7210) (.v 7211)) (.o2 .cel (.o2 (.cell 4) (.v 7210) (.v 7211)) (.il 0)))))), (.e (.uf 110 (.o2 .cel oc20 (.o2 .cel oc21 (.o2 .cel (.o2 (.cell 4) (.v 7210) oc19) (.il 0)))))), (.e (.o2 .lt (.v 7211) (.o1 .tlen (.v 7210)))), (.e (.o2 .lt oc19 (.o1 .tlen (.v 7210)))), (.e (.o2 .le (.il 0) oc19)), (.e (.o2 .le oc19 (.il 9223372036854775807))), (.e (.o2 .le (.il (-9223372036854775808)) oc19)), (.e (.o2 .le oc18 (.il 18446744073709551615))), (.e (.o2 .le oc18 (.il 9223372036854775807))), (.e (.o2 .ieq oc19 (.uf 121 (.o2 .cel (.v 7212) (.o2 .cel (.v 7213) (.o2 .cel (.o2 .add (.v 2111) (.il 1)) (.il 0)))))))]
def sm1L : List (Facts × List Ob) :=
  [((((oc23, true) : E × Bool) :: oc25),
    oc26),
   ((((oc23, false) : E × Bool) :: oc25),
    oc26),
   ([(oc24, false)],
    [])]
abbrev oc27 : E := .uf 122 (.o2 .cel (.v 7216) (.o2 .cel (.v 7217) (.o2 .cel (.v 2112) (.il 0))))
abbrev oc28 : E := .o2 .add oc27 (.v 7217)
abbrev oc29 : E := .o2 .quo oc28 (.il 2)
abbrev oc30 : E := .o2 (.cell 0) (.v 7215) oc29
abbrev oc31 : E := .o2 (.cell 1) (.v 7215) oc29
abbrev oc32 : E := .uf 100 (.o2 .cel oc30 (.o2 .cel oc31 (.il 0)))
abbrev oc33 : E := .uf 100 (.o2 .cel (.o2 (.cell 0) (.v 7215) (.v 7217)) (.o2 .cel (.o2 (.cell 1) (.v 7215) (.v 7217)) (.il 0)))
abbrev oc34 : E := .o2 .slt oc32 oc33
abbrev oc35 : E := .o2 .lt oc27 (.v 7217)
abbrev oc36 : Facts := [(oc35, true)]
abbrev oc37 : E := .o2 .add oc29 (.il 1)
abbrev oc38 : List Ob := [(.e (.o2 .lt (.v 2112) (.o2 .sub (.v 7217) (.v 7216)))), (.e (.o2 .le oc37 (.il 9223372036854775807))), (.e (.o2 .le (.il (-9223372036854775808)) oc37)), (.e (.o1 .not (.o2 .slt oc33 oc32))), (.e (.o1 .not (.o2 (.cell 6) (.v 7215) oc29))), (.e (.o1 .not (.o2 (.cell 6) (.v 7215) (.v 7217)))), (.e (.uf 110 (.o2 .cel oc30 (.o2 .cel oc31 (.o2 .cel (.o2 (.cell 4) (.v 7215) oc29) (.il 0)))))), (.e (.uf 110 (.o2 .cel (.o2 (.cell 0) (.v 7215) (.v 7217)) (.o2 .cel (.o2 (.cell 1) (.v 7215) (.v 7217)) (.o2 .cel (.o2 (.cell 4) (.v 7215) (.v 7217)) (.il 0)))))), (.e (.o2 .lt oc29 (.o1 .tlen (.v 7215)))), (.e (.o2 .le (.il 0) oc29)), (.e (.o2 .le oc29 (.il 9223372036854775807))), (.e (.o2 .le (.il (-9223372036854775808)) oc29)), (.e (.o2 .le (.il 0) oc28)), (.e (.o2 .le (.il 0) oc28)), (.e (.o2 .le (.il (-9223372036854775808)) oc28)), (.e (.o2 .ieq oc37 (.uf 122 (.o2 .cel (.v 7216) (.o2 .cel (.v 7217) (.o2 .cel (.o2 .add (.v 2112) (.il 1)) (.il 0)))))))]
def sm2L : List (Facts × List Ob) :=
  [((((oc34, true) : E × Bool) :: oc36),
    oc38),
   ((((oc34, false) : E × Bool) :: oc36),
    oc38),
   ([(oc35, false)],
    [(.e (.o2 .ieq oc27 (.v 7217)))])]
abbrev oc39 : E := .uf 122 (.o2 .cel (.v 7221) (.o2 .cel (.v 7222) (.o2 .cel (.v 2113) (.il 0))))
abbrev oc40 : E := .o2 .add oc39 (.v 7222)
abbrev oc41 : E := .o2 .quo oc40 (.il 2)
abbrev oc42 : E := .o2 (.cell 0) (.v 7220) oc41
abbrev oc43 : E := .o2 (.cell 1) (.v 7220) oc41
abbrev oc44 : E := .uf 100 (.o2 .cel oc42 (.o2 .cel oc43 (.il 0)))
abbrev oc45 : E := .o2 .sub (.v 7223) oc41
abbrev oc46 : E := .o2 (.cell 0) (.v 7220) oc45
abbrev oc47 : E := .o2 (.cell 1) (.v 7220) oc45
abbrev oc48 : E := .uf 100 (.o2 .cel oc46 (.o2 .cel oc47 (.il 0)))
abbrev oc49 : E := .o2 .slt oc44 oc48
abbrev oc50 : E := .o2 .lt oc39 (.v 7222)
abbrev oc51 : Facts := [(oc50, true)]
abbrev oc52 : E := .o2 .add oc41 (.il 1)
abbrev oc53 : List Ob := [(.e (.o2 .lt (.v 2113) (.o2 .sub (.v 7222) (.v 7221)))), (.e (.o2 .le oc52 (.il 9223372036854775807))), (.e (.o2 .le (.il (-9223372036854775808)) oc52)), (.e (.o1 .not (.o2 .slt oc48 oc44))), (.e (.o1 .not (.o2 (.cell 6) (.v 7220) oc41))), (.e (.o1 .not (.o2 (.cell 6) (.v 7220) oc45))), (.e (.uf 110 (.o2 .cel oc42 (.o2 .cel oc43 (.o2 .cel (.o2 (.cell 4) (.v 7220) oc41) (.il 0)))))), (.e (.uf 110 (.o2 .cel oc46 (.o2 .cel oc47 (.o2 .cel (.o2 (.cell 4) (.v 7220) oc45) (.il 0)))))), (.e (.o2 .lt oc41 (.o1 .tlen (.v 7220)))), (.e (.o2 .le (.il 0) oc41)), (.e (.o2 .lt oc45 (.o1 .tlen (.v 7220)))), (.e (.o2 .le (.il 0) oc45)), (.e (.o2 .le oc45 (.il 9223372036854775807))), (.e (.o2 .le (.il (-9223372036854775808)) oc45)), (.e (.o2 .le oc41 (.il 9223372036854775807))), (.e (.o2 .le (.il (-9223372036854775808)) oc41)), (.e (.o2 .le (.il 0) oc40)), (.e (.o2 .le oc40 (.il 18446744073709551615))), (.e (.o2 .le (.il 0) oc40)), (.e (.o2 .le oc40 (.il 9223372036854775807))), (.e (.o2 .le (.il (-9223372036854775808)) oc40)), (.e (.o2 .ieq oc52 (.uf 122 (.o2 .cel (.v 7221) (.o2 .cel (.v 7222) (.o2 .cel (.o2 .add (.v 2113) (.il 1)) (.il 0)))))))]
def sm3L : List (Facts × List Ob) :=
  [((((oc49, true) : E × Bool) :: oc51),
    oc53),
   ((((oc49, false) : E × Bool) :: oc51),
    oc53),
   ([(oc50, false)],
    [(.e (.o2 .ieq oc39 (.v 7222)))])]
abbrev oc54 : E := .o2 .lt (.v 7226) (.o2 .sub (.v 7227) (.il 1))
abbrev oc55 : E := .o2 .ieq (.o2 .sub (.v 7227) (.v 7226)) (.il 1)
abbrev oc56 : Facts := [(oc55, true)]
abbrev oc57 : E := .o2 .ieq (.o2 .sub (.v 7228) (.v 7227)) (.il 1)
abbrev oc58 : Facts := [(oc55, false)]
abbrev oc59 : List Ob := [(.e (.o2 .le (.il (-9223372036854775808)) (.o2 .sub (.v 7227) (.v 7226))))]
abbrev oc60 : E := .o2 .quo (.o2 .add (.v 7226) (.v 7228)) (.il 2)
abbrev oc61 : E := .o2 .add oc60 (.v 7227)
abbrev oc62 : E := .o2 .sub oc61 oc60
abbrev oc63 : E := .o2 .lt (.v 7227) oc62
abbrev oc64 : E := .o2 .lt oc60 (.v 7227)
abbrev oc65 : Facts := ((oc57, false) : E × Bool) :: oc58
abbrev oc66 : Facts := ((oc64, true) : E × Bool) :: oc65
abbrev oc67 : E := .o2 .lt oc62 (.v 7228)
abbrev oc68 : E := .o2 .lt oc60 oc62
abbrev oc69 : E := .o2 .lt (.v 7226) oc60
abbrev oc70 : Facts := ((oc63, false) : E × Bool) :: oc66
abbrev oc71 : Facts := ((oc69, true) : E × Bool) :: oc70
abbrev oc72 : Facts := ((oc68, true) : E × Bool) :: oc71
abbrev oc73 : E := .o2 .sub oc61 (.v 7228)
abbrev oc74 : E := .o2 .sub oc61 (.il 1)
abbrev oc75 : E := .o2 .add oc74 (.il 1)
abbrev oc76 : List Ob := ((.e (.o2 .le (.o2 .add (.v 7226) (.v 7228)) (.il 18446744073709551615))) : Ob) :: ((.e (.o2 .le (.o2 .add (.v 7226) (.v 7228)) (.il 9223372036854775807))) : Ob) :: oc59
abbrev oc77 : List Ob := ((.e (.o2 .le oc61 (.il 9223372036854775807))) : Ob) :: oc76
abbrev oc78 : List Ob := ((.e (.o2 .ieq oc73 (.uf 122 (.o2 .cel oc73 (.o2 .cel oc60 (.o2 .cel (.il 0) (.il 0))))))) : Ob) :: ((.e (.o2 .le (.o2 .mul (.il 2) oc60) oc75)) : Ob) :: ((.e (.o2 .lt (.o2 .sub oc74 oc73) (.o1 .tlen (.v 7225)))) : Ob) :: ((.e (.o2 .le oc73 oc60)) : Ob) :: ((.e (.o2 .le (.il 0) oc73)) : Ob) :: ((.e (.o2 .le oc74 (.il 9223372036854775807))) : Ob) :: ((.e (.o2 .le oc73 (.il 9223372036854775807))) : Ob) :: oc77
abbrev oc79 : Facts := ((oc69, false) : E × Bool) :: oc70
abbrev oc80 : Facts := ((oc68, true) : E × Bool) :: oc79
abbrev oc81 : List Ob := ((.e (.o2 .ieq oc73 (.uf 122 (.o2 .cel oc73 (.o2 .cel oc60 (.o2 .cel (.il 0) (.il 0))))))) : Ob) :: ((.e (.o2 .le (.o2 .mul (.il 2) oc60) oc75)) : Ob) :: ((.e (.o2 .lt (.o2 .sub oc74 oc73) (.o1 .tlen (.v 7225)))) : Ob) :: ((.e (.o2 .le oc73 oc60)) : Ob) :: ((.e (.o2 .le (.il 0) oc73)) : Ob) :: ((.e (.o2 .le oc74 (.il 9223372036854775807))) : Ob) :: ((.e (.o2 .le (.il (-9223372036854775808)) oc74)) : Ob) :: ((.e (.o2 .le oc73 (.il 9223372036854775807))) : Ob) :: ((.e (.o2 .le (.il (-9223372036854775808)) oc73)) : Ob) :: ((.e (.o2 .le oc61 (.il 9223372036854775807))) : Ob) :: ((.e (.o2 .le (.il (-9223372036854775808)) oc61)) : Ob) :: ((.e (.o2 .le (.il (-9223372036854775808)) oc60)) : Ob) :: oc76
abbrev oc82 : List Ob := ((.e (.o2 .le (.il (-9223372036854775808)) oc62)) : Ob) :: oc81
abbrev oc83 : E := .o2 .sub oc61 (.v 7227)
abbrev oc84 : E := .o2 .lt oc83 (.v 7228)
abbrev oc85 : E := .o2 .lt oc60 oc83
abbrev oc86 : E := .o2 .lt (.v 7227) oc60
abbrev oc87 : Facts := ((oc64, false) : E × Bool) :: oc65
abbrev oc88 : Facts := ((oc86, true) : E × Bool) :: oc87
abbrev oc89 : Facts := ((oc85, true) : E × Bool) :: oc88
abbrev oc90 : List Ob := ((.e (.o2 .ieq (.v 7226) (.uf 122 (.o2 .cel (.v 7226) (.o2 .cel (.v 7227) (.o2 .cel (.il 0) (.il 0))))))) : Ob) :: ((.e (.o2 .le (.o2 .mul (.il 2) (.v 7227)) oc75)) : Ob) :: ((.e (.o2 .lt (.o2 .sub oc74 (.v 7226)) (.o1 .tlen (.v 7225)))) : Ob) :: ((.e (.o2 .le (.v 7226) (.v 7227))) : Ob) :: ((.e (.o2 .le oc74 (.il 9223372036854775807))) : Ob) :: ((.e (.o2 .le (.il (-9223372036854775808)) oc74)) : Ob) :: oc77
abbrev oc91 : List Ob := ((.e (.o2 .ieq (.v 7226) (.uf 122 (.o2 .cel (.v 7226) (.o2 .cel (.v 7227) (.o2 .cel (.il 0) (.il 0))))))) : Ob) :: ((.e (.o2 .le (.o2 .mul (.il 2) (.v 7227)) oc75)) : Ob) :: ((.e (.o2 .lt (.o2 .sub oc74 (.v 7226)) (.o1 .tlen (.v 7225)))) : Ob) :: ((.e (.o2 .le (.v 7226) (.v 7227))) : Ob) :: ((.e (.o2 .le oc74 (.il 9223372036854775807))) : Ob) :: ((.e (.o2 .le (.il (-9223372036854775808)) oc74)) : Ob) :: ((.e (.o2 .le oc61 (.il 9223372036854775807))) : Ob) :: ((.e (.o2 .le oc60 (.il 9223372036854775807))) : Ob) :: oc76
abbrev oc92 : Facts := ((oc86, false) : E × Bool) :: oc87
abbrev oc93 : Facts := ((oc85, true) : E × Bool) :: oc92
def symL : List (Facts × List Ob) :=
  [((((oc54, true) : E × Bool) :: oc56),
    [(.e (.bl false))]),
   ((((oc54, false) : E × Bool) :: oc56),
    [(.e (.o2 .ieq (.v 7228) (.uf 121 (.o2 .cel (.v 7227) (.o2 .cel (.v 7228) (.o2 .cel (.il 0) (.il 0)))))))]),
   ((((oc57, true) : E × Bool) :: oc58),
    (((.e (.o2 .ieq (.v 7226) (.uf 122 (.o2 .cel (.v 7226) (.o2 .cel (.v 7227) (.o2 .cel (.il 0) (.il 0))))))) : Ob) :: ((.e (.o2 .lt (.v 7227) (.o1 .tlen (.v 7225)))) : Ob) :: oc59)),
   ((((oc63, true) : E × Bool) :: oc66),
    [(.e (.bl false))]),
   ((((oc67, true) : E × Bool) :: oc72),
    (((.e (.o2 .lt (.o2 .sub (.v 7228) oc60) (.v 7229))) : Ob) :: oc78)),
   ((((oc67, false) : E × Bool) :: oc72),
    oc78),
   ((((oc68, false) : E × Bool) :: oc71),
    (((.e (.o2 .le (.il (-9223372036854775808)) oc62)) : Ob) :: oc78)),
   ((((oc67, true) : E × Bool) :: oc80),
    (((.e (.o2 .le (.il 0) oc60)) : Ob) :: ((.e (.o2 .lt (.o2 .sub (.v 7228) oc60) (.v 7229))) : Ob) :: oc82)),
   ((((oc67, false) : E × Bool) :: oc80),
    oc81),
   ((((oc68, false) : E × Bool) :: oc79),
    oc82),
   ((((oc84, true) : E × Bool) :: oc89),
    (((.e (.o2 .lt (.o2 .sub (.v 7228) oc60) (.v 7229))) : Ob) :: ((.e (.o2 .le oc60 (.o1 .tlen (.v 7225)))) : Ob) :: ((.e (.o2 .lt (.o2 .sub oc60 (.v 7226)) (.v 7229))) : Ob) :: oc90)),
   ((((oc84, false) : E × Bool) :: oc89),
    (((.e (.o2 .le oc60 (.o1 .tlen (.v 7225)))) : Ob) :: ((.e (.o2 .lt (.o2 .sub oc60 (.v 7226)) (.v 7229))) : Ob) :: ((.e (.o2 .le oc83 (.il 9223372036854775807))) : Ob) :: oc91)),
   ((((oc85, false) : E × Bool) :: oc88),
    (((.e (.o2 .le oc60 (.o1 .tlen (.v 7225)))) : Ob) :: ((.e (.o2 .lt (.o2 .sub oc60 (.v 7226)) (.v 7229))) : Ob) :: ((.e (.o2 .le oc83 (.il 9223372036854775807))) : Ob) :: ((.e (.o2 .le (.il (-9223372036854775808)) oc83)) : Ob) :: oc91)),
   ((((oc84, true) : E × Bool) :: oc93),
    (((.e (.o2 .lt (.o2 .sub (.v 7228) oc60) (.v 7229))) : Ob) :: oc90)),
   ((((oc84, false) : E × Bool) :: oc93),
    (((.e (.o2 .le oc83 (.il 9223372036854775807))) : Ob) :: oc90)),
   ((((oc85, false) : E × Bool) :: oc92),
    (((.e (.o2 .le oc83 (.il 9223372036854775807))) : Ob) :: ((.e (.o2 .le (.il (-9223372036854775808)) oc83)) : Ob) :: oc90))]
abbrev oc94 : E := .o2 .add (.o2 .mul (.il 20) (.v 2114)) (.il 20)
abbrev oc95 : E := .o2 .le oc94 (.v 7231)
abbrev oc96 : E := .o2 .add (.o2 .mul (.il 20) (.v 2114)) (.il 40)
abbrev oc97 : E := .o2 .mul (.il 20) (.o2 .add (.v 2114) (.il 1))
def st1L : List (Facts × List Ob) :=
  [([(oc95, true)],
    [(.e (.o2 .lt (.v 2114) (.o2 .quo (.v 7231) (.il 20)))), (.e (.o2 .le oc96 (.il 9223372036854775807))), (.e (.o2 .le oc94 (.o1 .tlen (.v 7230)))), (.e (.o2 .le (.o2 .mul (.il 20) (.v 2114)) oc94)), (.e (.o2 .ieq oc94 oc97)), (.e (.o2 .ieq oc96 (.o2 .add oc97 (.il 20))))]),
   ([(oc95, false)],
    [(.e (.o2 .ieq (.o2 .mul (.il 20) (.v 2114)) (.o2 .mul (.il 20) (.o2 .quo (.v 7231) (.il 20)))))])]
abbrev oc98 : E := .uf 123 (.o2 .cel (.v 2116) (.il 0))
abbrev oc99 : E := .o2 .mul (.il 2) oc98
abbrev oc100 : E := .o2 .mul oc99 (.o2 .quo (.v 7241) oc99)
abbrev oc101 : E := .o2 .add oc100 oc98
abbrev oc102 : E := .o2 .lt oc101 (.v 7241)
abbrev oc103 : E := .o2 .lt oc98 (.v 7241)
abbrev oc104 : Facts := [(oc103, true)]
abbrev oc105 : E := .o2 .mul oc98 (.il 2)
abbrev oc106 : E := .o2 .mul oc99 (.il 0)
abbrev oc107 : List Ob := [(.e (.o2 .ieq oc99 (.o2 .add oc106 oc99))), (.e (.o2 .ieq (.il 0) oc106)), (.e (.o2 .le (.il 20) oc98)), (.e (.o2 .le (.il (-9223372036854775808)) oc99)), (.e (.o2 .ieq oc105 (.uf 123 (.o2 .cel (.o2 .add (.v 2116) (.il 1)) (.il 0)))))]
def st2L : List (Facts × List Ob) :=
  [((((oc102, true) : E × Bool) :: oc104),
    (((.e (.o2 .lt (.v 2116) (.v 7241))) : Ob) :: ((.e (.o2 .le (.il (-9223372036854775808)) oc105)) : Ob) :: ((.e (.o2 .le (.v 7241) (.o1 .tlen (.v 7240)))) : Ob) :: ((.e (.o2 .lt oc100 oc101)) : Ob) :: ((.e (.o2 .le (.il 0) oc100)) : Ob) :: ((.e (.o2 .le (.il (-9223372036854775808)) oc101)) : Ob) :: oc107)),
   ((((oc102, false) : E × Bool) :: oc104),
    (((.e (.o2 .lt (.v 2116) (.v 7241))) : Ob) :: ((.e (.o2 .le (.il (-9223372036854775808)) oc105)) : Ob) :: ((.e (.o2 .le oc101 (.il 9223372036854775807))) : Ob) :: oc107)),
   ([(oc103, false)],
    [])]
abbrev oc108 : E := .o2 .mul (.o2 .mul (.il 2) (.v 7236)) (.v 2115)
abbrev oc109 : E := .o2 .add oc108 (.o2 .mul (.il 2) (.v 7236))
abbrev oc110 : E := .o2 .le oc109 (.v 7235)
abbrev oc111 : E := .o2 .quo (.v 7235) (.o2 .mul (.il 2) (.v 7236))
abbrev oc112 : E := .o2 .add oc109 (.o2 .mul (.il 2) (.v 7236))
abbrev oc113 : E := .o2 .add oc108 (.v 7236)
abbrev oc114 : E := .o2 .mul (.o2 .mul (.il 2) (.v 7236)) (.o2 .add (.v 2115) (.il 1))
def st3L : List (Facts × List Ob) :=
  [([(oc110, true)],
    [(.e (.o2 .lt (.v 2115) oc111)), (.e (.o2 .le oc112 (.il 9223372036854775807))), (.e (.o2 .le (.il (-9223372036854775808)) oc112)), (.e (.o2 .le oc109 (.o1 .tlen (.v 7234)))), (.e (.o2 .lt oc113 oc109)), (.e (.o2 .lt oc108 oc113)), (.e (.o2 .le (.il 0) oc108)), (.e (.o2 .le oc113 (.il 9223372036854775807))), (.e (.o2 .le (.il (-9223372036854775808)) oc113)), (.e (.o2 .ieq oc109 oc114)), (.e (.o2 .ieq oc112 (.o2 .add oc114 (.o2 .mul (.il 2) (.v 7236)))))]),
   ([(oc110, false)],
    [(.e (.o2 .ieq oc108 (.o2 .mul (.o2 .mul (.il 2) (.v 7236)) oc111)))])]
abbrev oc115 : E := .o2 .mul (.il 20) (.o2 .quo (.o1 .tlen (.v 7245)) (.il 20))
def byKeysL : List (Facts × List Ob) :=
  [([],
    [(.e (.o2 .ieq (.il 20) (.uf 123 (.o2 .cel (.il 0) (.il 0))))), (.e (.o2 .le oc115 (.o1 .tlen (.v 7245)))), (.e (.o2 .le (.il 0) oc115))])]
abbrev oc116 : E := .o2 .lt (.v 2117) (.o1 .tlen (.v 7250))
abbrev oc117 : Facts := [(oc116, true)]
abbrev oc118 : E := .o2 (.cell 0) (.o2 (.cell 0) (.v 7250) (.v 2117)) (.il 0)
abbrev oc119 : E := .o2 (.cell 1) (.o2 (.cell 0) (.v 7250) (.v 2117)) (.il 0)
abbrev oc120 : E := .o2 (.cell 4) (.o2 (.cell 0) (.v 7250) (.v 2117)) (.il 0)
abbrev oc121 : E := .uf 102 (.o2 .cel (.v 7250) (.il 0))
abbrev oc122 : E := .o2 (.cell 2) (.o2 (.cell 0) (.v 7250) (.v 2117)) (.il 0)
abbrev oc123 : E := .o2 (.cell 3) (.o2 (.cell 0) (.v 7250) (.v 2117)) (.il 0)
abbrev oc124 : E := .o2 (.cell 5) (.o2 (.cell 0) (.v 7250) (.v 2117)) (.il 0)
abbrev oc125 : E := .o2 (.cell 6) (.o2 (.cell 0) (.v 7250) (.v 2117)) (.il 0)
abbrev oc126 : E := .o2 (.cell 7) (.o2 (.cell 0) (.v 7250) (.v 2117)) (.il 0)
abbrev oc127 : Facts := [(oc116, false)]
def objsOut0L : List (Facts × List Ob) :=
  [(oc117,
    [(.e (.uf 110 (.o2 .cel oc118 (.o2 .cel oc119 (.o2 .cel oc120 (.il 0)))))), (.e (.o2 .seq oc118 (.o2 (.cell 0) oc121 (.il 0)))), (.e (.o2 .seq oc119 (.o2 (.cell 1) oc121 (.il 0)))), (.e (.o2 .seq oc122 (.o2 (.cell 2) oc121 (.il 0)))), (.e (.o2 .seq oc123 (.o2 (.cell 3) oc121 (.il 0)))), (.t oc120 (.o2 (.cell 4) oc121 (.il 0))), (.e (.o2 .seq oc124 (.o2 (.cell 5) oc121 (.il 0)))), (.e (.o2 .beq oc125 (.o2 (.cell 6) oc121 (.il 0)))), (.e (.o2 .beq oc126 (.o2 (.cell 7) oc121 (.il 0))))]),
   (oc127,
    [(.t (.il 0) oc121)])]
def objsOut1L : List (Facts × List Ob) :=
  [(oc117,
    [(.e (.uf 110 (.o2 .cel oc118 (.o2 .cel oc119 (.o2 .cel oc120 (.il 0)))))), (.e (.o2 .seq oc118 (.o2 (.cell 0) oc121 (.v 2117)))), (.e (.o2 .seq oc119 (.o2 (.cell 1) oc121 (.v 2117)))), (.e (.o2 .seq oc122 (.o2 (.cell 2) oc121 (.v 2117)))), (.e (.o2 .seq oc123 (.o2 (.cell 3) oc121 (.v 2117)))), (.t oc120 (.o2 (.cell 4) oc121 (.v 2117))), (.e (.o2 .seq oc124 (.o2 (.cell 5) oc121 (.v 2117)))), (.e (.o2 .beq oc125 (.o2 (.cell 6) oc121 (.v 2117)))), (.e (.o2 .beq oc126 (.o2 (.cell 7) oc121 (.v 2117))))]),
   (oc127,
    [(.e (.o2 .le (.v 2117) (.o1 .tlen oc121))), (.t (.o2 .ttake oc121 (.v 2117)) oc121)])]
abbrev oc128 : E := .uf 102 (.o2 .cel (.v 7251) (.il 0))
abbrev oc129 : E := .o2 .cel oc128 (.il 0)
def objsOutFL : List (Facts × List Ob) :=
  [([],
    [(.e (.o2 .le (.o1 .tlen oc128) (.il 1000000))), (.e (.uf 111 oc129)), (.e (.uf 112 oc129))])]
end Go.Proofs.YtdlppkhmmclipaaGreat.sxObj
namespace Go.Proofs.YtdlppkhmmclipaaGreat.sxObj
open Go.Sx Go.RowKit Go.Proofs.YtdlppkhmmclipaaGreat
set_option linter.unusedVariables false
set_option linter.unusedSimpArgs false
set_option maxRecDepth 100000
theorem d_quo {env : Env} {a b : E} : (E.o2 .quo a b).den env = .i ((a.den env).I.tdiv (b.den env).I) := id rfl
theorem quo2 {a : Int} (h : 0 <= a) {b : Int} : a.tdiv b = a / b := Int.tdiv_eq_ediv_of_nonneg h
theorem dn_0 {lo hi : Int} : dn lo hi 0 = hi := id rfl
theorem up_0 {lo hi : Int} : up lo hi 0 = lo := id rfl
theorem dn_s {lo hi : Int} {n : Nat} (h : lo < dn lo hi n) : dn lo hi (n + 1) = (lo + dn lo hi n).tdiv 2 := by
  show (if lo < dn lo hi n then (lo + dn lo hi n).tdiv 2 else dn lo hi n) = _
  rw [if_pos h]
theorem up_s {lo hi : Int} {n : Nat} (h : up lo hi n < hi) : up lo hi (n + 1) = (up lo hi n + hi).tdiv 2 + 1 := by
  show (if up lo hi n < hi then (up lo hi n + hi).tdiv 2 + 1 else up lo hi n) = _
  rw [if_pos h]
theorem row_get {l : Dv} {n : Nat} (h : n < l.T.length) : row l n = l.T[n] := by
  have := row_lt h; rw [List.getElem?_eq_getElem h] at this; exact (Option.some.inj this).symm
theorem rise_bad {l : Dv} (h : Rising l.T) {a : Int} (ha : 0 <= a) (hb : a < (l.T.length : Nat)) : (cc (row l a.toNat) 6).B = false := h.2 _ (row_mem (by omega))
theorem rise_ok {l : Dv} (h : okRows l.T) {a : Int} (ha : 0 <= a) (hb : a < (l.T.length : Nat)) : okR (cc (row l a.toNat) 0) (cc (row l a.toNat) 1) (cc (row l a.toNat) 4) := h _ (row_mem (by omega))
theorem kl_good {r : Row} (h : (cc r 6).B = false) : kl r = (keyB (cc r 0).S (cc r 1).S).toList := by unfold kl; rw [kS_good h]
theorem rise_le {l : Dv} (h : Rising l.T) {a b : Int} (ha : 0 <= a) (hab : a <= b) (hb : b < (l.T.length : Nat)) : bytesLt (keyB (cc (row l b.toNat) 0).S (cc (row l b.toNat) 1).S) (keyB (cc (row l a.toNat) 0).S (cc (row l a.toNat) 1).S) = false := by
  have h1 := kl_good (rise_bad h ha (by omega))
  have h2 := kl_good (rise_bad h (by omega : 0 <= b) hb)
  rw [bl_eq, <- h1, <- h2, decide_eq_false_iff_not]
  by_cases he : a = b
  . rw [he]; exact List.lt_irrefl _
  . have hp := List.pairwise_iff_getElem.1 h.1 a.toNat b.toNat (by omega) (by omega) (by omega)
    rw [<- row_get, <- row_get] at hp; exact List.lt_asymm hp
structure Srt (l : Dv) : Prop where
  r : Rising l.T
  k : okRows l.T
  n : (l.T.length : Int) <= 1000000
section
variable {o : Env}
theorem srt_of (hu : OU o) {l : E} {fs : Facts} (h : (srtF l ++ fs).Hold o) : Srt (l.den o) /\ fs.Hold o := by
  simp only [srtF, okL, maxF, lenE, pk, List.foldr, List.cons_append, List.nil_append, SS, implies_true, hu.u111, hu.u112] at h; exact ⟨⟨dec_iff.1 h.1, dec_iff.1 h.2.1, h.2.2.1⟩, h.2.2.2⟩
theorem cmp_all : AllL o cmpL := by
  simp only [cmpL, allL_cons, allL_nil, and_true]
  and_intros
  all_goals intro h
  all_goals simp only [SS, implies_true]
theorem ins_all (hu : OU o) {r : Nat} (hr : o.v 2110 = .i r) (hent : (insY.ent 0).Hold o) (hle : (r : Int) <= ((E.o2 .sub (.v 7202) (.v 7201)).den o).I) : AllL o insL := by
  obtain ⟨hs, hent⟩ := srt_of hu hent; simp only [leT, lenE, SS, implies_true] at hent hle; have := hs.n; simp only [E.den] at hs this; simp only [insL, allL_cons, allL_nil, and_true]
  and_intros
  all_goals intro h
  all_goals simp only [SS, implies_true, hr, hu.u100, hu.u110] at h hle ⊢
  all_goals and_intros
  all_goals first | omega | exact rise_le hs.r (by omega) (by omega) (by omega) | exact rise_bad hs.r (by omega) (by omega) | exact dec_iff.2 (rise_ok hs.k (by omega) (by omega))
theorem sm1_all (hu : OU o) {r : Nat} (hr : o.v 2111 = .i r) (hent : (sm1Y.ent 0).Hold o) (hle : (r : Int) <= ((E.o2 .sub (.v 7213) (.v 7212)).den o).I) : AllL o sm1L := by
  obtain ⟨hs, hent⟩ := srt_of hu hent; simp only [leT, ltT, lenE, SS, implies_true] at hent hle; have := hs.n; simp only [E.den] at hs this; simp only [sm1L, allL_cons, allL_nil, and_true]
  and_intros
  all_goals intro h
  all_goals simp only [SS, implies_true, d_quo, hr, hu.u100, hu.u110, hu.u121] at h hle ⊢
  obtain ⟨d1, d2, d3⟩ := dn_ok (lo := (o.v 7212).I) (hi := (o.v 7213).I) (by omega) (by omega) r
  all_goals obtain ⟨d1, d2, d3⟩ := dn_ok (lo := (o.v 7212).I) (hi := (o.v 7213).I) (by omega) (by omega) r
  all_goals have d3 := d3 (by omega)
  all_goals obtain ⟨d4, d5⟩ := half (a := (o.v 7212).I) (by omega) (by omega : _ < dn (o.v 7212).I (o.v 7213).I r)
  all_goals and_intros
  all_goals first | omega | exact rise_le hs.r (by omega) (by omega) (by omega) | exact rise_bad hs.r (by omega) (by omega) | exact dec_iff.2 (rise_ok hs.k (by omega) (by omega)) | exact (dn_s (by omega)).symm
theorem sm2_all (hu : OU o) {r : Nat} (hr : o.v 2112 = .i r) (hent : (sm2Y.ent 0).Hold o) (hle : (r : Int) <= ((E.o2 .sub (.v 7217) (.v 7216)).den o).I) : AllL o sm2L := by
  obtain ⟨hs, hent⟩ := srt_of hu hent; simp only [leT, ltT, lenE, SS, implies_true] at hent hle; have := hs.n; simp only [E.den] at hs this; simp only [sm2L, allL_cons, allL_nil, and_true]
  and_intros
  all_goals intro h
  all_goals simp only [SS, implies_true, d_quo, hr, hu.u100, hu.u110, hu.u122] at h hle ⊢
  all_goals obtain ⟨d1, d2, d3⟩ := up_ok (lo := (o.v 7216).I) (hi := (o.v 7217).I) (by omega) (by omega) r
  . have d3 := d3 (by omega)
    obtain ⟨d4, d5⟩ := half (b := (o.v 7217).I) (by omega) (by omega : up (o.v 7216).I (o.v 7217).I r < _)
    and_intros
    all_goals first | omega | exact rise_le hs.r (by omega) (by omega) (by omega) | exact rise_bad hs.r (by omega) (by omega) | exact dec_iff.2 (rise_ok hs.k (by omega) (by omega)) | exact (up_s (by omega)).symm
  . have d3 := d3 (by omega)
    obtain ⟨d4, d5⟩ := half (b := (o.v 7217).I) (by omega) (by omega : up (o.v 7216).I (o.v 7217).I r < _)
    and_intros
    all_goals first | omega | exact rise_le hs.r (by omega) (by omega) (by omega) | exact rise_bad hs.r (by omega) (by omega) | exact dec_iff.2 (rise_ok hs.k (by omega) (by omega)) | exact (up_s (by omega)).symm
  . omega
theorem sm3_all (hu : OU o) {r : Nat} (hr : o.v 2113 = .i r) (hent : (sm3Y.ent 0).Hold o) (hle : (r : Int) <= ((E.o2 .sub (.v 7222) (.v 7221)).den o).I) : AllL o sm3L := by
  obtain ⟨hs, hent⟩ := srt_of hu hent; simp only [leT, ltT, lenE, SS, implies_true] at hent hle; have := hs.n; simp only [E.den] at hs this; simp only [sm3L, allL_cons, allL_nil, and_true]
  and_intros
  all_goals intro h
  all_goals simp only [SS, implies_true, d_quo, hr, hu.u100, hu.u110, hu.u122] at h hle ⊢
  all_goals obtain ⟨d1, d2, d3⟩ := up_ok (lo := (o.v 7221).I) (hi := (o.v 7222).I) (by omega) (by omega) r
  . have d3 := d3 (by omega)
    obtain ⟨d4, d5⟩ := half (b := (o.v 7222).I) (by omega) (by omega : up (o.v 7221).I (o.v 7222).I r < _)
    and_intros
    all_goals first | omega | exact rise_le hs.r (by omega) (by omega) (by omega) | exact rise_bad hs.r (by omega) (by omega) | exact dec_iff.2 (rise_ok hs.k (by omega) (by omega)) | exact (up_s (by omega)).symm
  . have d3 := d3 (by omega)
    obtain ⟨d4, d5⟩ := half (b := (o.v 7222).I) (by omega) (by omega : up (o.v 7221).I (o.v 7222).I r < _)
    and_intros
    all_goals first | omega | exact rise_le hs.r (by omega) (by omega) (by omega) | exact rise_bad hs.r (by omega) (by omega) | exact dec_iff.2 (rise_ok hs.k (by omega) (by omega)) | exact (up_s (by omega)).symm
  . omega
theorem sym_all (hu : OU o) (hent : symR.ent.Hold o) : AllL o symL := by
  have hg := (hold_cons_iff.1 hent).1; obtain ⟨hs, hent⟩ := srt_of hu (hold_cons_iff.1 hent).2; simp only [symSz, leT, ltT, lenE, SS, implies_true] at hent hg; have := hs.n; simp only [E.den] at hs this; have hq : ((o.v 7226).I + (o.v 7228).I).tdiv 2 = ((o.v 7226).I + (o.v 7228).I) / 2 := quo2 (by omega)
  simp only [symL, allL_cons, allL_nil, and_true]
  and_intros
  all_goals intro h
  all_goals simp only [SS, implies_true, d_quo, hq, hu.u121, hu.u122, dn_0, up_0] at h ⊢
  all_goals and_intros
  all_goals omega
theorem st1_all (hu : OU o) {r : Nat} (hr : o.v 2114 = .i r) (hent : (st1Y.ent 0).Hold o) (hle : (r : Int) <= ((E.o2 .quo (.v 7231) (.il 20)).den o).I) : AllL o st1L := by
  obtain ⟨hs, hent⟩ := srt_of hu hent; simp only [leT, ltT, lenE, d_quo, SS, implies_true] at hent hle; have := hs.n; simp only [E.den] at hs this; have hq : (o.v 7231).I.tdiv 20 = (o.v 7231).I / 20 := quo2 (by omega)
  simp only [st1L, allL_cons, allL_nil, and_true]
  and_intros
  all_goals intro h
  all_goals simp only [SS, implies_true, d_quo, hq, hr] at h hle ⊢
  all_goals and_intros
  all_goals omega
theorem st3_all (hu : OU o) {r : Nat} (hr : o.v 2115 = .i r) (hent : (st3Y.ent 0).Hold o) (hle : (r : Int) <= (quoW.den o).I) : AllL o st3L := by
  have hent : (srtF (.v 7234) ++ [(.o2 .ieq (.v 7235) (lenE (.v 7234)), true), leT (.il 20) (.v 7236), ltT (.v 7236) (.v 7235)]).Hold o := hent; obtain ⟨hs, hent⟩ := srt_of hu hent; simp only [leT, ltT, lenE, quoW, d_quo, SS, implies_true] at hent hle; have := hs.n; simp only [E.den] at hs this; have hq : (o.v 7235).I.tdiv (2 * (o.v 7236).I) = (o.v 7235).I / (2 * (o.v 7236).I) := quo2 (by omega)
  rw [hq] at hle; have hd : 0 < 2 * (o.v 7236).I := by omega
  have h1 : ∀ a : Int, a <= (o.v 7235).I / (2 * (o.v 7236).I) ↔ a * (2 * (o.v 7236).I) <= (o.v 7235).I := fun a => Int.le_ediv_iff_mul_le hd; have h2 := (h1 r).1 hle; have h3 := h1 (r + 1); have h0 : 0 <= (r : Int) * (2 * (o.v 7236).I) := Int.mul_nonneg (by omega) (by omega)
  have hm : 2 * (o.v 7236).I * (r : Int) = r * (2 * (o.v 7236).I) := Int.mul_comm ..; have hm2 : 2 * (o.v 7236).I * ((r : Int) + 1) = r * (2 * (o.v 7236).I) + 2 * (o.v 7236).I := by rw [Int.mul_comm, Int.add_mul, Int.one_mul]
  rw [Int.add_mul, Int.one_mul] at h3; simp only [st3L, allL_cons, allL_nil, and_true]
  and_intros
  all_goals intro h
  all_goals simp only [SS, implies_true, d_quo, hq, hr, hm, hm2] at h hle ⊢
  all_goals generalize hx : (r : Int) * (2 * (o.v 7236).I) = x at *
  . generalize (o.v 7235).I / (2 * (o.v 7236).I) = y at *
    and_intros
    all_goals omega
  . have : (o.v 7235).I / (2 * (o.v 7236).I) = r := by
      generalize (o.v 7235).I / (2 * (o.v 7236).I) = y at *; omega
    rw [this, hm]
theorem st2_all (hu : OU o) {r : Nat} (hr : o.v 2116 = .i r) (hent : (st2Y.ent 0).Hold o) (hle : (r : Int) <= ((E.v 7241).den o).I) : AllL o st2L := by
  obtain ⟨hs, hent⟩ := srt_of hu hent; simp only [leT, ltT, lenE, d_quo, SS, implies_true] at hent hle; have := hs.n; simp only [E.den] at hs this
  have hb : (r : Int) < 2 ^ r := by
    have := Nat.lt_two_pow_self (n := r)
    exact_mod_cast this
  have hb2 : (2 : Int) ^ (r + 1) = 2 ^ r * 2 := Int.pow_succ ..; simp only [st2L, allL_cons, allL_nil, and_true]
  and_intros
  all_goals intro h
  all_goals simp only [SS, implies_true, d_quo, hr, hu.u123, hb2] at h hle ⊢
  all_goals generalize (2 : Int) ^ r = b at *
  all_goals have hd : 0 < 2 * (20 * b) := by omega
  all_goals have hq : (o.v 7241).I.tdiv (2 * (20 * b)) = (o.v 7241).I / (2 * (20 * b)) := quo2 (by omega)
  all_goals simp only [hq, Int.mul_zero] at h ⊢
  all_goals have hx := Int.mul_ediv_self_le (x := (o.v 7241).I) (by omega : 2 * (20 * b) ≠ 0)
  all_goals have hy : 0 <= 2 * (20 * b) * ((o.v 7241).I / (2 * (20 * b))) := Int.mul_nonneg (by omega) (Int.ediv_nonneg (by omega) (by omega))
  all_goals generalize 2 * (20 * b) * ((o.v 7241).I / (2 * (20 * b))) = x at *
  all_goals and_intros
  all_goals first | omega | trivial
theorem byKeys_all (hu : OU o) (hent : byKeysF.ent.Hold o) : AllL o byKeysL := by
  have hent : (srtF (.v 7245) ++ []).Hold o := hent; obtain ⟨hs, _⟩ := srt_of hu hent; have := hs.n; simp only [E.den] at hs this; have hq : ((o.v 7245).T.length : Int).tdiv 20 = ((o.v 7245).T.length : Int) / 20 := quo2 (by omega)
  simp only [byKeysL, allL_cons, allL_nil, and_true]; intro h; simp only [SS, implies_true, d_quo, hq, hu.u123] at h ⊢
  and_intros
  . rfl
  all_goals omega
theorem objsOut0_all (hu : OU o) (hr : o.v 2117 = .i (0 : Nat)) (hent : (objsOutY.ent 0).Hold o) : AllL o objsOut0L := by
  simp only [objsOutY, mapT, okA, maxF, lenE, pk, List.foldr, SS, implies_true, hu.u113] at hent; have hok := dec_iff.1 hent.1; simp only [objsOut0L, allL_cons, allL_nil, and_true]
  and_intros
  all_goals intro h
  all_goals simp only [SS, implies_true, hr, hu.u110, hu.u102] at h ⊢
  . have hl : 0 < (o.v 7250).T.length := by omega
    have hk := okRow_at (l := .t ((o.v 7250).T.map outRow)) hok.2 (n := 0) (by rw [T_t, List.length_map]; exact hl)
    rw [row_map hl] at hk ⊢; exact ⟨dec_iff.2 hk, rfl, rfl, rfl, rfl, rfl, rfl, rfl, rfl⟩
  . have := nil_of (l := (o.v 7250).T) (by simpa using h)
    rw [this]; rfl
theorem objsOut1_all (hu : OU o) {r : Nat} (hr : o.v 2117 = .i r) (hent : (objsOutY.ent 0).Hold o) (hle : (r : Int) <= ((lenE (.v 7250)).den o).I) : AllL o objsOut1L := by
  simp only [objsOutY, mapT, okA, maxF, lenE, pk, List.foldr, SS, implies_true, hu.u113] at hent hle; have hok := dec_iff.1 hent.1; simp only [objsOut1L, allL_cons, allL_nil, and_true]
  and_intros
  all_goals intro h
  all_goals simp only [SS, implies_true, hr, hu.u110, hu.u102] at h ⊢
  . have hl : r < (o.v 7250).T.length := by omega
    have hk := okRow_at (l := .t ((o.v 7250).T.map outRow)) hok.2 (n := r) (by rw [T_t, List.length_map]; exact hl)
    rw [row_map hl] at hk ⊢; exact ⟨dec_iff.2 hk, rfl, rfl, rfl, rfl, rfl, rfl, rfl, rfl⟩
  . exact ⟨by rw [List.length_map]; omega, map_take h⟩
theorem objsOutF_all (hu : OU o) (hent : objsOutF.ent.Hold o) : AllL o objsOutFL := by
  simp only [objsOutF, okA, maxF, lenE, pk, List.foldr, SS, implies_true, hu.u113] at hent; have hok := dec_iff.1 hent.1; simp only [objsOutFL, allL_cons, allL_nil, and_true]; intro h; simp only [SS, implies_true, hu.u102, hu.u111, hu.u112, List.length_map] at h ⊢; exact ⟨hent.2, dec_iff.2 hok.2, dec_iff.2 hok.1⟩
end
section
variable {o : Env}
theorem never_ok (f : FuncId) : FnOk Tryz.prog o f neverP := by
  intro w0 args nx p h r h' nx' hp hr; have e : Prog.fail "never" = p := Option.some.inj hp; rw [<- e] at hr; exact absurd hr id
theorem cmpF_o : cmpF.obl Tryz.prog = some cmpL := by kernel_rfl
theorem cmpF_ok (hu : OU o) : FnOk Tryz.prog o fCmp cmpF.funP :=
  fun_by plain mixed (D := cmpF) cmpF_o (fun e A he => ctr_ok (c := ⟨[(fKeyOf, keyOfF.funP)], []⟩) (by kernel_rfl) ⟨keyOfF_ok (hu.like he), trivial⟩ trivial A) (fun e he h => cmp_all)
theorem cCmp_ok (hu : OU o) (A : Anchor) : ExtOk Tryz.prog o A (cCmp.x.toExt Tryz.prog) := ctr_ok (c := cCmp) (by kernel_rfl) ⟨cmpF_ok hu, trivial⟩ trivial A
theorem insY_c : Cnt1 Tryz.prog insY (.o2 .sub (.v 7202) (.v 7201)) insL := ⟨by kernel_rfl, by kernel_rfl, rfl, by kernel_rfl, rfl, fun m h => m0_of h, fun m h => m0_of h, fun _ => rfl⟩
theorem insY_ok (hu : OU o) : LpOk Tryz.prog o fInsCmp 1 insY.lpP :=
  insY_c.ok plain mixed (fun e he h => by
    obtain ⟨_, hent⟩ := srt_of (hu.like he) h; simp only [leT, lenE, SS, implies_true] at hent ⊢
    omega) (fun e A he => cCmp_ok (hu.like he) A) (fun e i he h hr hl => ins_all (hu.like he) hr h hl)
theorem insF_o : insF.obl Tryz.prog = some insFL := by kernel_rfl
theorem insF_ok (hu : OU o) : FnOk Tryz.prog o fInsCmp insF.funP :=
  fun_by plain mixed (D := insF) insF_o (fun e A he => ctr_ok (c := ⟨[], [(fInsCmp, 1, insY.lpP)]⟩) (by kernel_rfl) trivial ⟨insY_ok (hu.like he), trivial⟩ A) (fun e he h => by simp only [insFL, allL_cons, allL_nil, and_true]; intro _; simp only [allT_nil])
theorem sm1Y_c : Cnt1 Tryz.prog sm1Y (.o2 .sub (.v 7213) (.v 7212)) sm1L := ⟨by kernel_rfl, by kernel_rfl, rfl, by kernel_rfl, rfl, fun m h => m0_of h, fun m h => m0_of h, fun _ => rfl⟩
theorem sm1Y_ok (hu : OU o) : LpOk Tryz.prog o fSymMerge 3 sm1Y.lpP :=
  sm1Y_c.ok plain mixed (fun e he h => by
    obtain ⟨_, hent⟩ := srt_of (hu.like he) h; simp only [leT, ltT, lenE, SS, implies_true] at hent ⊢
    omega) (fun e A he => cCmp_ok (hu.like he) A) (fun e i he h hr hl => sm1_all (hu.like he) hr h hl)
theorem sm2Y_c : Cnt1 Tryz.prog sm2Y (.o2 .sub (.v 7217) (.v 7216)) sm2L := ⟨by kernel_rfl, by kernel_rfl, rfl, by kernel_rfl, rfl, fun m h => m0_of h, fun m h => m0_of h, fun _ => rfl⟩
theorem sm2Y_ok (hu : OU o) : LpOk Tryz.prog o fSymMerge 15 sm2Y.lpP :=
  sm2Y_c.ok plain mixed (fun e he h => by
    obtain ⟨_, hent⟩ := srt_of (hu.like he) h; simp only [leT, ltT, lenE, SS, implies_true] at hent ⊢
    omega) (fun e A he => cCmp_ok (hu.like he) A) (fun e i he h hr hl => sm2_all (hu.like he) hr h hl)
theorem sm3Y_c : Cnt1 Tryz.prog sm3Y (.o2 .sub (.v 7222) (.v 7221)) sm3L := ⟨by kernel_rfl, by kernel_rfl, rfl, by kernel_rfl, rfl, fun m h => m0_of h, fun m h => m0_of h, fun _ => rfl⟩
theorem sm3Y_ok (hu : OU o) : LpOk Tryz.prog o fSymMerge 33 sm3Y.lpP :=
  sm3Y_c.ok plain mixed (fun e he h => by
    obtain ⟨_, hent⟩ := srt_of (hu.like he) h; simp only [leT, ltT, lenE, SS, implies_true] at hent ⊢
    omega) (fun e A he => cCmp_ok (hu.like he) A) (fun e i he h hr hl => sm3_all (hu.like he) hr h hl)
theorem symR_o : symR.obl Tryz.prog = some symL := by kernel_rfl
theorem symF_ok (hu : OU o) : FnOk Tryz.prog o fSymMerge symF.funP :=
  FunY.rec_ok plain mixed (D := symF) (G := 7229) (sz := symSz) (X := symC.x.dies) symR_o rfl (by kernel_rfl) (fun _ => rfl)
    (fun e A he hf => ctr_okd (c := symC) (by kernel_rfl) ⟨never_ok fRotate, hf, trivial⟩ ⟨sm1Y_ok (hu.like he.uf), sm2Y_ok (hu.like he.uf), sm3Y_ok (hu.like he.uf), trivial⟩ A)
    (fun e he h => sym_all (hu.like he.uf) h) (fun e he h => by
      obtain ⟨_, hent⟩ := srt_of (hu.like he.uf) h; simp only [symSz, leT, ltT, lenE, SS, implies_true] at hent ⊢
      omega)
theorem st1Y_c : Cnt1 Tryz.prog st1Y (.o2 .quo (.v 7231) (.il 20)) st1L := ⟨by kernel_rfl, by kernel_rfl, rfl, by kernel_rfl, rfl, fun m h => m0_of h, fun m h => m0_of h, fun _ => rfl⟩
theorem st1Y_ok (hu : OU o) : LpOk Tryz.prog o fStabCmp 2 st1Y.lpP :=
  st1Y_c.ok plain mixed (fun e he h => by
    obtain ⟨_, hent⟩ := srt_of (hu.like he) h; simp only [leT, ltT, lenE, d_quo, SS, implies_true] at hent ⊢
    exact Int.tdiv_nonneg (by omega) (by omega)) (fun e A he => ctr_ok (c := ⟨[(fInsCmp, insF.funP)], []⟩) (by kernel_rfl) ⟨insF_ok (hu.like he), trivial⟩ trivial A) (fun e i he h hr hl => st1_all (hu.like he) hr h hl)
theorem st3Y_c : Cnt1 Tryz.prog st3Y quoW st3L := ⟨by kernel_rfl, by kernel_rfl, rfl, by kernel_rfl, rfl, fun m h => m0_of h, fun m h => m0_of h, fun _ => rfl⟩
theorem st3Y_ok (hu : OU o) : LpOk Tryz.prog o fStabCmp 9 st3Y.lpP :=
  st3Y_c.ok plain mixed (fun e he h => by
    have hent : (srtF (.v 7234) ++ [(.o2 .ieq (.v 7235) (lenE (.v 7234)), true), leT (.il 20) (.v 7236), ltT (.v 7236) (.v 7235)]).Hold e := h; obtain ⟨_, hent⟩ := srt_of (hu.like he) hent; simp only [leT, ltT, lenE, quoW, d_quo, SS, implies_true] at hent ⊢
    exact Int.tdiv_nonneg (by omega) (by omega)) (fun e A he => ctr_ok (c := ⟨[(fSymMerge, symF.funP)], []⟩) (by kernel_rfl) ⟨symF_ok (hu.like he), trivial⟩ trivial A) (fun e i he h hr hl => st3_all (hu.like he) hr h hl)
theorem st2Y_c : Cnt1 Tryz.prog st2Y (.v 7241) st2L := ⟨by kernel_rfl, by kernel_rfl, rfl, by kernel_rfl, rfl, fun m h => m0_of h, fun m h => m0_of h, fun _ => rfl⟩
theorem st2Y_ok (hu : OU o) : LpOk Tryz.prog o fStabCmp 7 st2Y.lpP :=
  st2Y_c.ok plain mixed (fun e he h => by
    obtain ⟨_, hent⟩ := srt_of (hu.like he) h; simp only [leT, ltT, lenE, d_quo, SS, implies_true] at hent ⊢
    omega) (fun e A he => ctr_ok (c := ⟨[(fSymMerge, symF.funP)], [(fStabCmp, 9, st3Y.lpP)]⟩) (by kernel_rfl) ⟨symF_ok (hu.like he), trivial⟩ ⟨st3Y_ok (hu.like he), trivial⟩ A) (fun e i he h hr hl => st2_all (hu.like he) hr h hl)
theorem byKeysF_o : byKeysF.obl Tryz.prog = some byKeysL := by kernel_rfl
theorem byKeysF_ok (hu : OU o) : FnOk Tryz.prog o fByKeys byKeysF.funP :=
  fun_by plain mixed (D := byKeysF) byKeysF_o (fun e A he => ctr_ok (c := ⟨[(fInsCmp, insF.funP)], [(fStabCmp, 2, st1Y.lpP), (fStabCmp, 7, st2Y.lpP)]⟩) (by kernel_rfl) ⟨insF_ok (hu.like he), trivial⟩ ⟨st1Y_ok (hu.like he), st2Y_ok (hu.like he), trivial⟩ A) (fun e he h => byKeys_all (hu.like he) h)
theorem objsOutY_c : Cnt2 Tryz.prog objsOutY (lenE (.v 7250)) objsOut0L objsOut1L := ⟨by kernel_rfl, by kernel_rfl, by kernel_rfl, rfl, rfl, by kernel_rfl, rfl, fun m h => m0_of h, fun m h => m1_of h, fun _ => rfl⟩
theorem objsOutY_ok (hu : OU o) : LpOk Tryz.prog o fObjsOut 3 objsOutY.lpP :=
  objsOutY_c.ok plain mixed (fun o _ _ => nn_len o) (fun e A he => ctr_ok (c := ⟨[(fObjOut, objOutF.funP)], []⟩) (by kernel_rfl) ⟨objOutF_ok (hu.like he), trivial⟩ trivial A) (fun e he h hr _ => objsOut0_all (hu.like he) hr h) (fun e i he h hr _ hl => objsOut1_all (hu.like he) hr h hl)
theorem objsOutF_o : objsOutF.obl Tryz.prog = some objsOutFL := by kernel_rfl
theorem objsOutF_ok (hu : OU o) : FnOk Tryz.prog o fObjsOut objsOutF.funP :=
  fun_by plain mixed (D := objsOutF) objsOutF_o (fun e A he => ctr_ok (c := ⟨[(fByKeys, byKeysF.funP)], [(fObjsOut, 3, objsOutY.lpP)]⟩) (by kernel_rfl) ⟨byKeysF_ok (hu.like he), trivial⟩ ⟨objsOutY_ok (hu.like he), trivial⟩ A) (fun e he h => objsOutF_all (hu.like he) h)
end
end Go.Proofs.YtdlppkhmmclipaaGreat.sxObj

