/-
  THE LAW FnRetrying: its further loops as they are computed.
-/
import Derived.Test.YtckdphmpafopmaaSxRtA
namespace Go.Proofs.Ytckdphmpafopmaa.sxRetrying
open Go.Sx Go.RowKit
set_option linter.unusedVariables false

/-! ### FnRetrying -/
/-- Where a pair stands in a list: slices.Index. -/
def r14 : E := .v 2014
def ixA : E := pk [.v 7060, .v 7061, .v 7062]
def ixY : LoopY where
  f := 43; key := 2; N := 19; r := 2014; base := 19000
  js := [5] ++ js 9 19
  hd := fun _ => ⟨[(0, .dsl pairK (.v 7060)), (3, .ptr 1 (.c 0)), (4, .top), (6, .dsl pairK (.v 7060)), (7, .int .i64 (.o1 .tlen (.v 7060))), (8, .int .i64 r14)], [(1, .cells 90 [.str (.v 7061), .str (.v 7062)])], 9,
    [(.o2 .le (.il 0) r14, true), (.o2 .le r14 (.o1 .tlen (.v 7060)), true), (.o2 .le (.o1 .tlen (.v 7060)) (.il 9223372036854775807), true)]⟩
  ent := fun _ => [(.o2 .le (.o1 .tlen (.v 7060)) (.il 9223372036854775807), true)]
  app := fun _ => true
  ok0 := fun m => Nat.beq m 0
  modeL := fun _ => .ret 0
  tgt := fun m => Nat.beq m 0
  mf := fun _ => []
  hx := fun n => ⟨[(0, .top), (3, .ptr 1 (.c 0)), (4, match n with | 1 => .int .i64 (.uf 61 ixA) | _ => .top), (6, .top), (7, .top), (8, .top)], [(1, .cells 90 [.str (.v 7061), .str (.v 7062)])], 9, []⟩
  xmL := fun ex _ => match ex with | .ret => .ret 1 | _ => .ret 0
  exN := fun n => match n with | 1 => .ret | _ => .exit 0
  exits := [(.uf 60 ixA, 1), (.bl true, 0)]
  fixed := [1]
  lt := .o2 .lt r14 (.uf 61 ixA)
  X := XCtr.none
  fuel := 100; np := 30
  params := [7060, 7061, 7062]
def c7 : Ctr := ⟨[], [(43, 2, ixY.lpP)]⟩
/-- Are all labels there? -/
def slY : LoopY := guardT 23 4 23 4 pairK 12 14 ([6] ++ js 15 23) 0 7065 2015 62 63 c7.x [(0, .dsl pairK (.v 7065)), (1, .dsl pairK (.v 7065))]
def c8 : Ctr := ⟨[], (23, 4, slY.lpP) :: c7.lps⟩
/-- Two answers that are one: what was sent. -/
def r16 : E := .v 2016
def rsO : SObj := .cells 34 [.dsl sentK (.v 7070), .bool (.v 7071), .str (.v 7072), .bool (.v 7073), .int .i64 (.v 7074)]
def rsY : LoopY where
  f := 11; key := 4; N := 83; r := 2016; base := 21000
  js := [5, 6, 7] ++ js 19 57
  hd := fun _ => ⟨[(2, .ptr 1 (.c 0)), (3, .ptr 2 (.c 0)), (4, .bool (.bl false)), (16, .dsl sentK (.v 7070)), (17, .int .i64 (.o1 .tlen (.v 7070))), (18, .int .i64 r16)], [(2, rsO), (1, rsO)], 9,
    [(.o2 .le (.il 0) r16, true), (.o2 .le r16 (.o1 .tlen (.v 7070)), true), (.o2 .le (.o1 .tlen (.v 7070)) (.il 9223372036854775807), true), (.uf 64 (pk [.v 7070]), true)]⟩
  ent := fun _ => [(.o2 .le (.o1 .tlen (.v 7070)) (.il 9223372036854775807), true), (.uf 64 (pk [.v 7070]), true)]
  app := fun _ => true
  ok0 := fun m => Nat.beq m 0
  modeL := fun _ => .ret 0
  tgt := fun m => Nat.beq m 0
  mf := fun _ => []
  hx := fun _ => ⟨[(2, .ptr 1 (.c 0)), (3, .ptr 2 (.c 0)), (4, .bool (.bl false)), (16, .top), (17, .top), (18, .top)], [(2, rsO), (1, rsO)], 9, []⟩
  xmL := fun ex _ => match ex with | .ret => .ret 1 | _ => .ret 0
  exN := fun n => match n with | 1 => .ret | _ => .exit 0
  exits := [(.bl false, 1), (.bl true, 0)]
  fixed := [1, 2]
  lt := .o2 .lt r16 (.o1 .tlen (.v 7070))
  X := c8.x
  fuel := 300; np := 60
  params := [7070, 7071, 7072, 7073, 7074]
/-- The loop of spec.Retrying. -/
def r17 : E := .v 2017
def spA : E := pk [.v 7076, .v 7075, r17]
def spOut : E := .uf 30 (pk [.v 7076, .v 7075])
def sp : LoopY where
  f := 10; key := 6; N := 33; r := 2017; base := 22000
  js := [9] ++ js 22 33
  hd := fun m => ⟨[(0, .str (.v 7076)), (6, .ptr 2 (.c 0)), (7, match m with | 0 => .nilsl | _ => .sl 3 5 (.il 0) r17), (19, .dsl stepK (.v 7075)), (20, .int .i64 (.o1 .tlen (.v 7075))), (21, .int .i64 r17)],
    (match m with | 0 => [] | _ => [(3, .row 34 5 r17 (ansCols spOut) [])]) ++
    [(2, .cells 61 [.str (.uf 20 spA), .bool (.uf 21 spA), .bool (.uf 22 spA)])], 9,
    (match m with | 0 => [(.o2 .ieq r17 (.il 0), true)] | _ => [(.o2 .lt (.il 0) r17, true)]) ++ [(.o2 .le (.il 0) r17, true), (.o2 .le r17 (.o1 .tlen (.v 7075)), true), (.o2 .le (.o1 .tlen (.v 7075)) (.il 80), true), (.uf 9 (pk [.v 7075]), false), (.uf 66 (pk [.v 7075]), true),
     (.o2 .le (.il 0) (.o2 (.cell 0) (.v 7075) r17), true), (.o2 .le (.o2 (.cell 0) (.v 7075) r17) (.il 5), true)]⟩
  ent := fun _ => [(.o2 .le (.o1 .tlen (.v 7075)) (.il 80), true), (.uf 9 (pk [.v 7075]), false), (.uf 66 (pk [.v 7075]), true)]
  app := fun sl => match nth sl 19 with | some (.dsl ..) => true | _ => false
  ok0 := fun m => Nat.beq m 0
  modeL := fun sl => match nth sl 7 with | some .nilsl => .ret 0 | some (.sl ..) => .ret 1 | _ => .fail
  tgt := fun m => Nat.beq m 1
  mf := fun _ => []
  hx := fun _ => ⟨[(0, .top), (6, .top), (7, .dsl ansK spOut), (19, .top), (20, .top), (21, .top)], [], 9, []⟩
  xmL := fun _ _ => .ret 0
  exN := fun _ => .exit 0
  exits := [(.bl true, 0)]
  fixed := []
  lt := .o2 .lt r17 (.o1 .tlen (.v 7075))
  X := XCtr.none
  fuel := 300; np := 200
  params := [7075, 7076]
def c9 : Ctr := ⟨[], c5.lps ++ (10, 6, sp.lpP) :: (11, 4, rsY.lpP) :: c8.lps⟩
/-- The law's look at two lists of answers that are one. -/
def r18 : E := .v 2018
def lw : LoopY where
  f := 4; key := 10; N := 68; r := 2018; base := 23000
  js := [9] ++ js 54 67
  hd := fun _ => ⟨[(4, .bool (.bl false)), (5, .dsl ansK (.v 7080)), (7, .dsl ansK (.v 7080)), (51, .dsl ansK (.v 7080)), (52, .int .i64 (.o1 .tlen (.v 7080))), (53, .int .i64 r18)], [], 9,
    [(.o2 .le (.il 0) r18, true), (.o2 .le r18 (.o1 .tlen (.v 7080)), true), (.o2 .le (.o1 .tlen (.v 7080)) (.il 80), true), (.uf 65 (pk [.v 7080]), true)]⟩
  ent := fun _ => [(.o2 .le (.o1 .tlen (.v 7080)) (.il 80), true), (.uf 65 (pk [.v 7080]), true)]
  app := fun _ => true
  ok0 := fun m => Nat.beq m 0
  modeL := fun _ => .ret 0
  tgt := fun m => Nat.beq m 0
  mf := fun _ => []
  hx := fun _ => ⟨[(4, .bool (.bl false)), (5, .top), (7, .top), (51, .top), (52, .top), (53, .top)], [], 9, []⟩
  xmL := fun ex _ => match ex with | .ret => .ret 1 | _ => .ret 0
  exN := fun n => match n with | 1 => .ret | _ => .exit 0
  exits := [(.bl false, 1), (.bl true, 0)]
  fixed := []
  lt := .o2 .lt r18 (.o1 .tlen (.v 7080))
  X := (Ctr.mk [] ((11, 4, rsY.lpP) :: c8.lps)).x
  fuel := 300; np := 60
  params := [7080]
def c10 : Ctr := ⟨[], (4, 10, lw.lpP) :: c9.lps⟩
end Go.Proofs.Ytckdphmpafopmaa.sxRetrying
