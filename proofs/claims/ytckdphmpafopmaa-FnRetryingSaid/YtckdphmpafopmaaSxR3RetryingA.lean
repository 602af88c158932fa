/-
  THE LAWS FnRetrying*: their loops as they are computed, and what they compute.
-/
import Derived.Test.YtckdphmpafopmaaSxGuard
namespace Go.Proofs.Ytckdphmpafopmaa.sxRetrying
open Go.Sx Go.RowKit
set_option linter.unusedVariables false

def pairK : DKs := .cons .str (.cons .str .nil)
/-- An operation: kind, type, the object's eight cells, number, wait. -/
def stepK : DKs := .cons (.int .i64) (.cons (.int .i64) (.cons .str (.cons .str (.cons .str (.cons .str (.cons (.sl pairK) (.cons .str (.cons .bool (.cons .bool (.cons (.int .i64) (.cons (.int .i64) .nil)))))))))))
def js (a b : Nat) : List Nat := (List.range (b - a)).map (· + a)
def big : E := .il 9223372036854775807

def fits6 : LoopY := guardT 35 4 18 2 pairK 8 10 ([4] ++ js 11 18) 0 7000 2000 1 2 XCtr.none
def c1 : Ctr := ⟨[], [(35, 4, fits6.lpP)]⟩
def fits31 : LoopY := guardT 6 4 18 2 stepK 8 10 ([4] ++ js 11 18) 0 7001 2001 3 4 c1.x
/-- A key that stands in a list already. -/
def dup : LoopY := guardT 22 7 42 2 pairK 26 28 ([6] ++ js 29 38) 2 7002 2002 5 6 XCtr.none [(4, .ptr 1 (.c 0))] [.v 7003] [7003, 7004] [(1, .cells 90 [.str (.v 7003), .str (.v 7004)])]
def c2 : Ctr := ⟨[], [(22, 7, dup.lpP)]⟩
def pairs : LoopY := guardT 22 2 42 2 pairK 7 9 ([3, 4, 6] ++ js 10 39) 0 7005 2005 7 8 c2.x [(0, .dsl pairK (.v 7005))]
def c3 : Ctr := ⟨[], [(22, 2, pairs.lpP), (22, 7, dup.lpP)]⟩
def steps : LoopY := guardT 7 2 111 2 stepK 5 7 ([4] ++ js 8 108) 0 7006 2006 9 10 c3.x
def c4 : Ctr := ⟨[], c1.lps ++ (6, 4, fits31.lpP) :: (7, 2, steps.lpP) :: c3.lps⟩

/-! ### objects are made and read -/
def r10 : E := .v 2010
/-- The loop of impl.objIn. -/
def objIn : LoopY where
  f := 29; key := 3; N := 43; r := 2010; base := 15000
  js := js 21 42
  hd := fun m => ⟨[(1, .ptr 1 (.c 0)), (3, .ptr 2 (.c 0)), (4, .int .i64 r10)],
    (match m with | 0 => [] | _ => [(3, .row 104 2 r10 [.tc .str (.v 7020) 0, .tc .str (.v 7020) 1] [])]) ++
    [(1, .cells 29 [.top, .top, .top, .top, .dsl pairK (.v 7020), .top, .top, .top]),
     (2, .cells 103 [.str (.v 7021), .str (.v 7022), .str (.v 7023), .str (.v 7024), (match m with | 0 => .nilsl | _ => .sl 3 2 (.il 0) r10), .str (.v 7025), .bool (.v 7026), .bool (.v 7027), .nilmap])], 9,
    (match m with | 0 => [(.o2 .ieq r10 (.il 0), true)] | _ => [(.o2 .lt (.il 0) r10, true)]) ++ [(.o2 .le (.il 0) r10, true), (.o2 .le r10 (.o1 .tlen (.v 7020)), true), (.o2 .le (.o1 .tlen (.v 7020)) (.il 2147483647), true)]⟩
  ent := fun _ => [(.o2 .le (.o1 .tlen (.v 7020)) (.il 2147483647), true)]
  app := fun _ => true
  ok0 := fun m => Nat.beq m 0
  modeL := fun sl => match nth sl 3 with | some (.ptr n _) => .get n fun o => (match o with | .cells _ [_, _, _, _, .nilsl, _, _, _, _] => .ret 0 | .cells _ [_, _, _, _, .sl .., _, _, _, _] => .ret 1 | _ => .fail) | _ => .fail
  tgt := fun m => Nat.beq m 1
  mf := fun _ => []
  hx := fun _ => ⟨[(1, .ptr 1 (.c 0)), (3, .ptr 2 (.c 0)), (4, .top)],
    [(1, .cells 29 [.top, .top, .top, .top, .top, .top, .top, .top]), (2, .cells 103 [.str (.v 7021), .str (.v 7022), .str (.v 7023), .str (.v 7024), .dsl pairK (.v 7020), .str (.v 7025), .bool (.v 7026), .bool (.v 7027), .nilmap])], 9, []⟩
  xmL := fun _ _ => .ret 0
  exN := fun _ => .exit 0
  exits := [(.bl true, 0)]
  fixed := [1, 2]
  lt := .o2 .lt r10 (.o1 .tlen (.v 7020))
  X := XCtr.none
  fuel := 100; np := 30
  params := [7020, 7021, 7022, 7023, 7024, 7025, 7026, 7027]

/-- The loop of impl.objOut. -/
def r12 : E := .v 2012
def objOut : LoopY where
  f := 41; key := 9; N := 84; r := 2012; base := 17000
  js := js 62 83
  hd := fun m => ⟨[(3, .ptr 1 (.c 0)), (7, .ptr 2 (.c 0)), (8, .int .i64 r12)],
    (match m with | 0 => [] | _ => [(3, .row 90 2 r12 [.tc .str (.v 7040) 0, .tc .str (.v 7040) 1] [])]) ++
    [(2, .cells 29 [.str (.v 7041), .str (.v 7042), .str (.v 7043), .str (.v 7044), (match m with | 0 => .nilsl | _ => .sl 3 2 (.il 0) r12), .str (.v 7045), .bool (.v 7046), .bool (.v 7047)]),
     (1, .cells 103 [.top, .top, .top, .top, .dsl pairK (.v 7040), .top, .top, .top, .top])], 9,
    (match m with | 0 => [(.o2 .ieq r12 (.il 0), true)] | _ => [(.o2 .lt (.il 0) r12, true)]) ++ [(.o2 .le (.il 0) r12, true), (.o2 .le r12 (.o1 .tlen (.v 7040)), true), (.o2 .le (.o1 .tlen (.v 7040)) (.il 2147483647), true)]⟩
  ent := fun _ => [(.o2 .le (.o1 .tlen (.v 7040)) (.il 2147483647), true)]
  app := fun _ => true
  ok0 := fun m => Nat.beq m 0
  modeL := fun sl => match nth sl 7 with | some (.ptr n _) => .get n fun o => (match o with | .cells _ [_, _, _, _, .nilsl, _, _, _] => .ret 0 | .cells _ [_, _, _, _, .sl .., _, _, _] => .ret 1 | _ => .fail) | _ => .fail
  tgt := fun m => Nat.beq m 1
  mf := fun _ => []
  hx := fun _ => ⟨[(3, .top), (7, .ptr 2 (.c 0)), (8, .top)],
    [(2, .cells 29 [.str (.v 7041), .str (.v 7042), .str (.v 7043), .str (.v 7044), .dsl pairK (.v 7040), .str (.v 7045), .bool (.v 7046), .bool (.v 7047)])], 9, []⟩
  xmL := fun _ _ => .ret 0
  exN := fun _ => .exit 0
  exits := [(.bl true, 0)]
  fixed := [2]
  lt := .o2 .lt r12 (.o1 .tlen (.v 7040))
  X := XCtr.none
  fuel := 100; np := 30
  params := [7040, 7041, 7042, 7043, 7044, 7045, 7046, 7047]

/-! ### impl.Retrying -/
def objD (r : DKs) : DKs := .cons .str (.cons .str (.cons .str (.cons .str (.cons (.sl pairK) (.cons .str (.cons .bool (.cons .bool r)))))))
def sentK : DKs := .cons (.int .i64) (.cons (.int .i64) (objD .nil))
def ansK : DKs := .cons (.sl sentK) (.cons .bool (.cons .str (.cons .bool (.cons (.int .i64) .nil))))
def r11 : E := .v 2011
def imA : E := pk [.v 7031, .v 7030, r11]
def imOut : E := .uf 30 (pk [.v 7031, .v 7030])
def ansCols (e : E) : List Col := [.tc (.sl sentK) e 0, .tc .bool e 1, .tc .str e 2, .tc .bool e 3, .tc (.int .i64) e 4]
/-- The kinds of operations, one by one. -/
def kindF (c : Nat) : Facts :=
  match c with
  | 4 => [1, 2, 3, 4].map fun k => (.o2 .ieq (.o2 (.cell 0) (.v 7030) r11) (.il k), false)
  | c => [(.o2 .ieq (.o2 (.cell 0) (.v 7030) r11) (.il (c + 1 : Nat)), true)]
def im : LoopY where
  f := 8; key := 7; N := 37; r := 2011; base := 16000
  js := js 21 36
  hd := fun μ => let m := μ % 2; ⟨[(0, .str (.v 7031)), (1, .dsl stepK (.v 7030)), (8, .ptr 2 (.c 0)), (9, match m with | 0 => .nilsl | _ => .sl 3 5 (.il 0) r11), (10, .int .i64 r11)],
    (match m with | 0 => [] | _ => [(3, .row 34 5 r11 (ansCols imOut) [])]) ++
    [(2, .cells 57 [.ptr 1 (.c 0), .bool (.uf 21 imA), .bool (.uf 22 imA)]), (1, .cells 69 [.str (.uf 20 imA), .nilsl])], 9,
    (match m with | 0 => [(.o2 .ieq r11 (.il 0), true)] | _ => [(.o2 .lt (.il 0) r11, true)]) ++ [(.o2 .le (.il 0) r11, true), (.o2 .le r11 (.o1 .tlen (.v 7030)), true), (.o2 .le (.o1 .tlen (.v 7030)) (.il 80), true), (.uf 9 (pk [.v 7030]), false),
     (.o2 .le (.il 0) (.o2 (.cell 0) (.v 7030) r11), true), (.o2 .le (.o2 (.cell 0) (.v 7030) r11) (.il 5), true)] ++ kindF (μ / 2)⟩
  ent := fun _ => [(.o2 .le (.o1 .tlen (.v 7030)) (.il 80), true), (.uf 9 (pk [.v 7030]), false)]
  app := fun sl => match nth sl 1 with | some (.dsl ..) => true | _ => false
  ok0 := fun m => Nat.beq m 0
  modeL := fun sl => match nth sl 9 with | some .nilsl => .ret 0 | some (.sl ..) => .ret 1 | _ => .fail
  tgt := fun m => Nat.beq m 1
  mf := fun _ => []
  hx := fun _ => ⟨[(0, .str (.v 7031)), (1, .dsl stepK (.v 7030)), (8, .top), (9, .dsl ansK imOut), (10, .top)], [], 9, []⟩
  xmL := fun _ _ => .ret 0
  exN := fun _ => .exit 0
  exits := [(.bl true, 0)]
  fixed := []
  lt := .o2 .lt r11 (.o1 .tlen (.v 7030))
  X := (Ctr.mk [] [(29, 3, objIn.lpP), (41, 9, objOut.lpP)]).x
  fuel := 300; np := 200
  params := [7030, 7031]
def c5 : Ctr := ⟨[], c4.lps ++ [(29, 3, objIn.lpP), (41, 9, objOut.lpP), (8, 7, im.lpP)]⟩

/-! ### FnRetryingEnds -/
def r13 : E := .v 2013
def enA : E := pk [.v 7051, .v 7050, r13]
def enOut : E := .uf 30 (pk [.v 7051, .v 7050])
/-- The loop of the law. -/
def en : LoopY where
  f := 3; key := 10; N := 152; r := 2013; base := 18000
  js := [9, 10, 11] ++ js 54 151
  hd := fun _ => ⟨[(0, .str (.v 7051)), (1, .dsl stepK (.v 7050)), (4, .bool (.bl false)), (5, .dsl ansK enOut), (7, .bool (.uf 22 enA)), (8, .bool (.uf 23 enA)), (51, .dsl stepK (.v 7050)), (52, .int .i64 (.o1 .tlen (.v 7050))), (53, .int .i64 r13)], [], 9,
    [(.o2 .le (.il 0) r13, true), (.o2 .le r13 (.o1 .tlen (.v 7050)), true), (.o2 .le (.o1 .tlen (.v 7050)) (.il 80), true), (.uf 9 (pk [.v 7050]), false),
     (.o2 .ieq (.o1 .tlen enOut) (.o1 .tlen (.v 7050)), true),
     (.o2 .le (.il 0) (.o2 (.cell 0) (.v 7050) r13), true), (.o2 .le (.o2 (.cell 0) (.v 7050) r13) (.il 5), true)]⟩
  ent := fun _ => [(.o2 .le (.o1 .tlen (.v 7050)) (.il 80), true), (.uf 9 (pk [.v 7050]), false)]
  app := fun _ => true
  ok0 := fun m => Nat.beq m 0
  modeL := fun _ => .ret 0
  tgt := fun m => Nat.beq m 0
  mf := fun _ => []
  hx := fun _ => ⟨[(0, .top), (1, .top), (4, .bool (.bl false)), (5, .top), (7, .top), (8, .top), (51, .top), (52, .top), (53, .top)], [], 9, []⟩
  xmL := fun ex _ => match ex with | .ret => .ret 1 | _ => .ret 0
  exN := fun n => match n with | 1 => .ret | _ => .exit 0
  exits := [(.bl false, 1), (.bl true, 0)]
  fixed := []
  lt := .o2 .lt r13 (.o1 .tlen (.v 7050))
  X := XCtr.none
  fuel := 300; np := 200
  params := [7050, 7051]
def c6 : Ctr := ⟨[], c5.lps ++ [(3, 10, en.lpP)]⟩
end Go.Proofs.Ytckdphmpafopmaa.sxRetrying
