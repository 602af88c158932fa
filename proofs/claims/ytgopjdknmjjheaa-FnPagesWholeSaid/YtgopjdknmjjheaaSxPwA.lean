/-
  THE LAWS FnPages*: what their loops' rounds have to show is so.
-/
import Derived.Test.YtgopjdknmjjheaaSxMLoopH
namespace Go.Proofs.Ytgopjdknmjjheaa.sxPages
open Go.Sx Go.RowKit
set_option linter.unusedVariables false

def js (a b : Nat) : List Nat := (List.range (b - a)).map (· + a)
def nmK : DKs := .cons .str .nil
/-- A page: names, where it goes on, version, error. -/
def pgK : DKs := .cons (.sl nmK) (.cons .str (.cons .str (.cons (.int .i64) .nil)))
def callK : DKs := .cons (.int .i64) (.cons .str (.cons .str (.cons .str .nil)))
def objK : DKs := .cons .str (.cons .str (.cons .str (.cons .str (.cons (.sl (.cons .str (.cons .str .nil))) (.cons .str (.cons .bool (.cons .bool (.cons .nilm .nil))))))))

/-! ### guards -/
def fits13 : LoopY := guardT 16 4 18 2 nmK 8 10 ([4] ++ js 11 18) 0 7000 2000 1 2 XCtr.none
def c1 : Ctr := ⟨[], [(16, 4, fits13.lpP)]⟩
def fits27 : LoopY := guardT 10 4 18 2 pgK 8 10 ([4] ++ js 11 18) 0 7001 2001 3 4 c1.x
def goodN : LoopY := guardT 11 9 97 4 nmK 82 84 ([8] ++ js 85 96) 2 7002 2002 5 6 XCtr.none
def c2 : Ctr := ⟨[], [(11, 9, goodN.lpP)]⟩
def good : LoopY := guardT 11 4 97 4 pgK 44 46 ([6, 8] ++ js 47 97) 0 7003 2003 7 8 c2.x
def c3 : Ctr := ⟨[], [(16, 4, fits13.lpP), (10, 4, fits27.lpP), (11, 4, good.lpP)]⟩

/-! ### impl.Pages -/
def itK : DKs := .cons (.fp objK) .nil
def ivK : DKs := .cons (.ifc 79 (.fp objK)) .nil
/-- The names of a page become objects. -/
def r10 : E := .v 2010
def inNm : E := .o2 (.cell 0) (.v 7010) (.v 7011)
def inX : E := .uf 10 (pk [inNm])
def inY : LoopY where
  f := 27; key := 9; N := 89; r := 2010; base := 15000
  js := js 58 87
  hd := fun m => ⟨[(2, .ptr 1 (.c 0)), (6, .int .i64 (.v 7011)), (7, .ptr 2 (.c 0)), (8, .int .i64 r10)],
    (match m with | 0 => [] | _ => [(3, .row 79 1 r10 [.tc (.fp objK) inX 0] [])]) ++
    [(2, .cells 76 [(match m with | 0 => .nilsl | _ => .sl 3 1 (.il 0) r10), .str (.v 7012), .str (.v 7013)]), (1, .cells 31 [.dsl pgK (.v 7010)])], 9,
    (match m with | 0 => [(.o2 .ieq r10 (.il 0), true)] | _ => [(.o2 .lt (.il 0) r10, true)]) ++ [(.o2 .le (.il 0) r10, true), (.o2 .le r10 (.o1 .tlen inNm), true), (.o2 .le (.o1 .tlen inNm) (.il 1000), true), (.o2 .le (.il 0) (.v 7011), true), (.o2 .lt (.v 7011) (.o1 .tlen (.v 7010)), true)]⟩
  ent := fun _ => [(.o2 .le (.o1 .tlen inNm) (.il 1000), true), (.o2 .le (.il 0) (.v 7011), true), (.o2 .lt (.v 7011) (.o1 .tlen (.v 7010)), true)]
  app := fun _ => true
  ok0 := fun m => Nat.beq m 0
  modeL := fun sl => match nth sl 7 with | some (.ptr n _) => .get n fun o => (match o with | .cells _ (.nilsl :: _) => .ret 0 | .cells _ (.sl .. :: _) => .ret 1 | _ => .fail) | _ => .fail
  tgt := fun m => Nat.beq m 1
  mf := fun _ => []
  hx := fun _ => ⟨[(2, .ptr 1 (.c 0)), (6, .top), (7, .ptr 2 (.c 0)), (8, .top)], [(2, .cells 76 [.dsl itK inX, .str (.v 7012), .str (.v 7013)]), (1, .cells 31 [.dsl pgK (.v 7010)])], 9, []⟩
  xmL := fun _ _ => .ret 0
  exN := fun _ => .exit 0
  exits := [(.bl true, 0)]
  fixed := [1, 2]
  lt := .o2 .lt r10 (.o1 .tlen inNm)
  X := XCtr.none
  fuel := 100; np := 30
  params := [7010, 7011, 7012, 7013]
  kds := [(79, itK), (83, objK)]
/-- A page's objects are added to the list. -/
def r11 : E := .v 2011
def agA : E := pk [.v 7020, .v 7021, r11]
def agX : E := .uf 11 agA
def agZ : E := .uf 11 (pk [.v 7020, .v 7021, .o1 .tlen (.v 7021)])
def agY : LoopY where
  f := 75; key := 2; N := 29; r := 2011; base := 16000
  js := js 6 29
  hd := fun _ => ⟨[(0, .ptr 1 (.c 0)), (1, .fn (.func 57) [] [.ptr 4 (.c 0)]), (4, .nilif), (5, .int .i64 r11)],
    [(6, .row 70 1 (.o1 .tlen agX) [.tc (.ifc 79 (.fp objK)) agX 0] []), (5, .cells 147 [.sl 6 1 (.il 0) (.o1 .tlen agX), .str (.v 7024), .str (.v 7025)]), (4, .cells 142 [.ptr 5 (.c 0)]), (1, .cells 76 [.dsl itK (.v 7021), .str (.v 7022), .str (.v 7023)])], 9,
    [(.o2 .le (.il 0) r11, true), (.o2 .le r11 (.o1 .tlen (.v 7021)), true), (.o2 .le (.o1 .tlen (.v 7021)) (.il 1000), true), (.o2 .le (.o1 .tlen agX) (.il 1000000), true)]⟩
  ent := fun _ => [(.o2 .le (.o1 .tlen (.v 7021)) (.il 1000), true), (.o2 .le (.o1 .tlen (.v 7020)) (.il 900000), true)]
  app := fun sl => match nth sl 1 with | some (.fn (.func 57) _ _) => true | _ => false
  ok0 := fun m => Nat.beq m 0
  modeL := fun _ => .ret 0
  tgt := fun m => Nat.beq m 0
  mf := fun _ => []
  hx := fun _ => ⟨[(0, .ptr 1 (.c 0)), (1, .fn (.func 57) [] [.ptr 4 (.c 0)]), (4, .nilif), (5, .top)],
    [(6, .row 70 1 (.o1 .tlen agZ) [.tc (.ifc 79 (.fp objK)) agZ 0] []), (5, .cells 147 [.sl 6 1 (.il 0) (.o1 .tlen agZ), .str (.v 7024), .str (.v 7025)]), (4, .cells 142 [.ptr 5 (.c 0)]), (1, .cells 76 [.dsl itK (.v 7021), .str (.v 7022), .str (.v 7023)])], 9, []⟩
  xmL := fun _ _ => .ret 0
  exN := fun _ => .exit 0
  exits := [(.bl true, 0)]
  fixed := [1, 4, 5]
  lt := .o2 .lt r11 (.o1 .tlen (.v 7021))
  X := XCtr.none
  fuel := 100; np := 30
  params := [7020, 7021, 7022, 7023, 7024, 7025]
  pinH := [(7020, 1, 0, [0, 0])]
  kds := [(70, ivK), (79, itK), (83, objK)]
/-- Names are gathered. -/
def r12 : E := .v 2012
def gaZ : E := .uf 12 (pk [.v 7030])
def labs : E := .o2 (.cell 4) (.o2 (.cell 0) (.v 7030) r12) (.il 0)
def gaT (f r : Nat) (T J : Nat) (K : DKs) : LoopY where
  f := f; key := 2; N := J; r := 2012; base := r
  js := js 6 J
  hd := fun m => ⟨[(0, .ptr 1 (.c 0)), (1, .fn (.func 33) [] [.ptr 4 (.c 0)]), (4, .nilif), (5, .int .i64 r12)],
    (match m with | 0 => [] | _ => [(3, .row 9 1 r12 [.tc .str gaZ 0] [])]) ++ [(4, .cells 40 [.int .i64 (.v 7033), .bool (.v 7034), (match m with | 0 => .nilsl | _ => .sl 3 1 (.il 0) r12), .str (.v 7035), .dsl callK (.v 7036)]), (1, .cells T [.dsl K (.v 7030), .str (.v 7031), .str (.v 7032)])], 9,
    (match m with | 0 => [(.o2 .ieq r12 (.il 0), true)] | _ => [(.o2 .lt (.il 0) r12, true)]) ++ [(.o2 .le (.il 0) r12, true), (.o2 .le r12 (.o1 .tlen (.v 7030)), true), (.o2 .le (.o1 .tlen (.v 7030)) (.il 1000000), true), (.o2 .ieq (.o1 .tlen labs) (.il 0), true)]⟩
  ent := fun _ => [(.o2 .le (.o1 .tlen (.v 7030)) (.il 1000000), true), (.uf 13 (pk [.v 7030]), true)]
  app := fun sl => match nth sl 1 with | some (.fn (.func 33) _ _) => true | _ => false
  ok0 := fun m => Nat.beq m 0
  modeL := fun sl => match nth sl 1 with | some (.fn _ _ [.ptr n _]) => .get n fun o => (match o with | .cells _ (_ :: _ :: .nilsl :: _) => .ret 0 | .cells _ (_ :: _ :: .sl .. :: _) => .ret 1 | _ => .fail) | _ => .fail
  tgt := fun m => Nat.beq m 1
  mf := fun _ => []
  hx := fun _ => ⟨[(0, .ptr 1 (.c 0)), (1, .fn (.func 33) [] [.ptr 4 (.c 0)]), (4, .nilif), (5, .top)],
    [(4, .cells 40 [.int .i64 (.v 7033), .bool (.v 7034), .dsl nmK gaZ, .str (.v 7035), .dsl callK (.v 7036)]), (1, .cells T [.dsl K (.v 7030), .str (.v 7031), .str (.v 7032)])], 9, []⟩
  xmL := fun _ _ => .ret 0
  exN := fun _ => .exit 0
  exits := [(.bl true, 0)]
  fixed := [1, 4]
  lt := .o2 .lt r12 (.o1 .tlen (.v 7030))
  X := XCtr.none
  fuel := 200; np := 40
  params := [7030, 7031, 7032, 7033, 7034, 7035, 7036]
def gaY : LoopY := gaT 75 17000 76 29 itK
def gbY : LoopY := gaT 96 18000 147 28 ivK

/-! ### the pager's own loop -/
def r13 : E := .v 2013
/-- What it hangs on: may all be listed, version, match, limit, pages. -/
def pmL : List E := [.v 7041, .v 7042, .v 7043, .v 7044, .v 7045]
def pmA : E := pk pmL
def pmR : E := pk (pmL ++ [r13])
def pmN : E := .uf 20 pmA
def pmC : E := .uf 21 pmA
def pmI : E := .uf 22 (pk [.v 7045, r13])
def pmZ : E := .uf 22 (pk [.v 7045, .o2 .add pmN (.il 1)])
def pgAt (i : E) (k : Nat) : E := .o2 (.cell k) (.v 7045) i
def prev : E := .o2 .sub r13 (.il 1)
def thisP (m : Nat) : E := match m with | 0 => .il 0 | _ => r13
def nextP (m : Nat) : E := match m with | 0 => .il 1 | _ => .o2 .add r13 (.il 1)
def errNot (i : E) : Facts := [1, 2, 3, 4, 5, 6, 7, 9, 10, 11, 12, 13, 14, 15, 16, 17, 18, 19].map fun k => (.o2 .ieq (pgAt i 3) (.il k), false)
def optsO (m : Nat) : SObj := .cells 68 [.str (match m with | 0 => .v 7042 | _ => .sl []), .str (match m with | 0 => .v 7043 | _ => .sl []), .int .i64 (.v 7044), .str (match m with | 0 => .sl [] | _ => pgAt prev 1), .bool (.bl false), .nilp]
def callCols (e : E) : List Col := [.tc (.int .i64) e 0, .tc .str e 1, .tc .str e 2, .tc .str e 3]
def pmO (g : SObj) : CHeap := [(5, .cells 31 [.dsl pgK (.v 7045)]), (4, g), (3, .cells 84 [.fn (.func 27) [] [.ptr 4 (.c 0), .ptr 5 (.c 0)]]), (1, .cells 86 [.int .i64 (.v 7040), .fn (.func 45) [] [.ptr 3 (.c 0)], .bool (.v 7041), .int .i32 (.il 10)])]
def errO (n : Nat) : SObj :=
  match n with
  | 0 => .cells 118 [.str (.sl ("BadRequest".toUTF8.data.toList)), .int .i64 (.il 400), .int .i64 (.il 0), .bool (.bl false)]
  | _ => .cells 118 [.str (.sl ("Expired".toUTF8.data.toList)), .int .i64 (.il 410), .int .i64 (.il 0), .bool (.bl false)]
def pmX (n : Nat) : Head :=
  let g : SObj := .cells 40 [.int .i64 (.il 0), .bool (.bl false), .nilsl, .str (.sl []), .dsl callK (.uf 25 pmA)]
  let lst (i : E) : SObj := .cells 76 [.dsl itK (.uf 10 (pk [pgAt i 0])), .str (pgAt i 2), .str (pgAt i 1)]
  let pd : E := .o2 .lt (.il 0) pmN
  match n with
  | 1 => ⟨[(8, .nilif), (9, .bool pd), (10, .ifc 77 (.ptr 20 (.c 0))), (0, .ptr 1 (.c 0)), (3, .top), (6, .top), (11, .top), (12, .top), (13, .top), (14, .top)], (20, errO 0) :: pmO g, 30, []⟩
  | 2 => ⟨[(8, .nilif), (9, .bool pd), (10, .ifc 77 (.ptr 20 (.c 0))), (0, .ptr 1 (.c 0)), (3, .top), (6, .top), (11, .top), (12, .top), (13, .top), (14, .top)], (20, errO 1) :: pmO g, 30, []⟩
  | 3 => ⟨[(8, .ifc 73 (.ptr 21 (.c 0))), (9, .bool (.bl true)), (10, .nilif), (0, .ptr 1 (.c 0)), (3, .top), (6, .top), (11, .top), (12, .top), (13, .top), (14, .top)], (21, lst (.o2 .add pmN (.il 1))) :: pmO g, 30, []⟩
  | 6 => ⟨[(8, .ifc 73 (.ptr 21 (.c 0))), (9, .bool (.bl false)), (10, .nilif), (0, .ptr 1 (.c 0)), (3, .top), (6, .top), (11, .top), (12, .top), (13, .top), (14, .top)], (21, lst (.il 0)) :: pmO g, 30, []⟩
  | _ => ⟨[(8, .ifc 142 (.ptr 22 (.c 0))), (9, .bool (.bl true)), (10, .nilif), (0, .ptr 1 (.c 0)), (3, .top), (6, .top), (11, .top), (12, .top), (13, .top), (14, .top)], (22, .cells 147 [.dsl ivK pmZ, .str (pgAt (.il 0) 2), .str (.sl [])]) :: pmO g, 30, []⟩
def c4 : Ctr := ⟨[], [(27, 9, inY.lpP), (75, 2, agY.lpP)]⟩
def pmY : LoopY where
  f := 46; key := 7; N := 140; r := 2013; base := 19000
  js := [15, 16, 17, 18, 19, 20, 21] ++ js 34 140
  hd := fun m => ⟨[(0, .ptr 1 (.c 0)), (3, .bool (.bl false)), (6, .ptr 6 (.c 0)), (8, .nilif), (9, .bool (.bl false)), (10, .nilif), (11, .str (.v 7042)), (12, .str (.v 7043)), (13, .ptr 7 (.c 0)), (14, .bool (.bl (Nat.beq m 1)))],
    (match m with | 0 => [(7, .cells 142 [.nilp])] | _ => [(10, .row 46 4 r13 (callCols pmC) []), (9, .row 70 1 (.o1 .tlen pmI) [.tc (.ifc 79 (.fp objK)) pmI 0] []), (8, .cells 147 [.sl 9 1 (.il 0) (.o1 .tlen pmI), .str (pgAt (.il 0) 2), .str (.sl [])]), (7, .cells 142 [.ptr 8 (.c 0)])]) ++
    [(6, optsO m)] ++ pmO (.cells 40 [.int .i64 (.il 0), .bool (.bl false), .nilsl, .str (.sl []), (match m with | 0 => .nilsl | _ => .sl 10 4 (.il 0) r13)]), 19,
    (match m with | 0 => [(.o2 .ieq r13 (.il 0), true)] | _ => [(.o2 .lt (.il 0) r13, true), (.o2 .seq (pgAt prev 1) (.sl []), false)]) ++
    [(.o2 .le (.il 0) r13, true), (.o2 .le r13 (.o1 .tlen (.v 7045)), true), (.o2 .le (.o1 .tlen (.v 7045)) (.il 66), true), (.o2 .le (.o1 .tlen (pgAt (thisP m) 0)) (.il 60), true), (.o2 .le (.o1 .tlen (pgAt (nextP m) 0)) (.il 60), true), (.o2 .le (.o1 .tlen pmI) (.il 4000), true),
     (.o2 .le (.il 0) (.v 7044), true), (.o2 .le (.v 7044) (.il 10000), true), (.o2 .le (.il 0) (.v 7040), true), (.o2 .le (.v 7040) (.il 10000), true)] ++ errNot (thisP m) ++ errNot (nextP m)⟩
  ent := fun _ => [(.o2 .le (.o1 .tlen (.v 7045)) (.il 66), true), (.uf 7 (pk [.v 7045]), false), (.o2 .le (.il 0) (.v 7044), true), (.o2 .le (.v 7044) (.il 10000), true), (.o2 .le (.il 0) (.v 7040), true), (.o2 .le (.v 7040) (.il 10000), true)]
  app := fun sl => match nth sl 28 with | some (.int _ (.il _)) => false | _ => true
  ok0 := fun m => Nat.beq m 0
  modeL := fun sl => match nth sl 14 with | some (.bool (.bl false)) => .ret 0 | some (.bool (.bl true)) => .ret 1 | _ => .fail
  tgt := fun m => Nat.beq m 1
  mf := fun _ => []
  hx := pmX
  xmL := fun _ sl => match nth sl 8, nth sl 10 with
    | some (.ifc 142 _), _ => .ret 7
    | some (.ifc 73 _), _ => (match nth sl 14 with | some (.bool (.bl true)) => .ret 3 | _ => .ret 6)
    | _, some (.ifc 77 (.ptr n _)) => .get n fun o => (match o, nth sl 14 with
      | .cells _ (.str (.sl (66 :: _)) :: _), _ => .ret 1
      | .cells _ (.str (.sl (69 :: _)) :: _), _ => .ret 2
      | _, _ => .fail)
    | _, _ => .fail
  exN := fun _ => .ret
  exits := [1, 2, 3, 6].map (fun k => (.o2 .ieq (.uf 24 pmA) (.il (k : Nat)), k)) ++ [(.bl true, 7)]
  fixed := [1, 3, 4, 5]
  lt := .o2 .lt r13 pmN
  X := c4.x
  fuel := 400; np := 80
  params := [7040, 7041, 7042, 7043, 7044, 7045]
  pinH := [(7045, 0, 0, [])]
  kds := [(70, ivK), (79, itK), (83, objK), (46, callK), (48, pgK)]

/-! ### spec.Pages -/
def r14 : E := .v 2014
def spP : E := .o2 .sub r14 (.il 1)
def spO (m : Nat) (names : E) (calls : SV) : CHeap :=
  [(4, .cells 40 [.int .i64 (.il 0), .bool (.bl (Nat.beq m 1)), .dsl nmK names, .str (match m with | 0 => .sl [] | _ => pgAt (.il 0) 2), calls]),
   (3, .cells 46 [.int .i64 (.v 7044), .str (match m with | 0 => .sl [] | _ => pgAt spP 1), .str (match m with | 0 => .v 7042 | _ => .sl []), .str (match m with | 0 => .v 7043 | _ => .sl [])]),
   (2, .cells 40 [.int .i64 (.il 0), .bool (.bl false), .nilsl, .str (.sl []), .nilsl]), (1, .cells 30 [.top, .bool (.v 7041), .str (.v 7042), .str (.v 7043), .top])]
def spY : LoopY where
  f := 15; key := 8; N := 109; r := 2014; base := 20000
  js := [9] ++ js 22 109
  hd := fun m => ⟨[(1, .dsl pgK (.v 7045)), (2, .ptr 1 (.c 0)), (4, .ptr 2 (.c 0)), (5, .int .i64 (.v 7044)), (6, .ptr 3 (.c 0)), (7, .ptr 4 (.c 0)), (8, .int .i64 r14)],
    (match m with | 0 => [] | _ => [(5, .row 46 4 r14 (callCols pmC) [])]) ++ spO m (.uf 23 (pk [.v 7045, r14])) (match m with | 0 => .nilsl | _ => .sl 5 4 (.il 0) r14), 9,
    (match m with | 0 => [(.o2 .ieq r14 (.il 0), true)] | _ => [(.o2 .lt (.il 0) r14, true), (.o2 .seq (pgAt spP 1) (.sl []), false)]) ++
    [(.o2 .le (.il 0) r14, true), (.o2 .le r14 (.o1 .tlen (.v 7045)), true), (.o2 .le (.o1 .tlen (.v 7045)) (.il 60), true), (.o2 .le (.o1 .tlen (pgAt r14 0)) (.il 60), true), (.o2 .le (.o1 .tlen (.uf 23 (pk [.v 7045, r14]))) (.il 4000), true)]⟩
  ent := fun _ => [(.o2 .le (.o1 .tlen (.v 7045)) (.il 60), true), (.uf 7 (pk [.v 7045]), false)]
  app := fun _ => true
  ok0 := fun m => Nat.beq m 0
  modeL := fun sl => match nth sl 7 with | some (.ptr n _) => .get n fun o => (match o with | .cells _ (_ :: .bool (.bl false) :: _) => .ret 0 | .cells _ (_ :: .bool (.bl true) :: _) => .ret 1 | _ => .fail) | _ => .fail
  tgt := fun m => Nat.beq m 1
  mf := fun _ => []
  hx := fun n => ⟨[(1, .top), (2, .top), (4, .ptr 2 (.c 0)), (5, .top), (6, .top), (7, .top), (8, .top)], [(2, .cells 40 [.int .i64 (match n with | 1 => .uf 28 pmA | _ => .il 0), .bool (match n with | 6 => .bl false | 7 => .bl true | _ => .o2 .lt (.il 0) pmN), (match n with | 1 => .nilsl | _ => .dsl nmK (.uf 26 pmA)), .str (match n with | 1 => .sl [] | _ => .uf 27 pmA), .dsl callK (.uf 25 pmA)])], 9, []⟩
  xmL := fun _ sl => match nth sl 4 with
    | some (.ptr n _) => .get n fun o => (match o with
      | .cells _ (.int _ (.il 0) :: .bool (.bl false) :: _) => .ret 6
      | .cells _ (.int _ (.il 0) :: .bool (.bl true) :: _) => .ret 7
      | .cells _ (_ :: _ :: .nilsl :: _) => .ret 1
      | .cells _ (_ :: .bool (.bl true) :: _) => .ret 7
      | _ => .fail)
    | _ => .fail
  exN := fun _ => .ret
  exits := [(.o2 .or (.o2 .ieq (.uf 24 pmA) (.il 1)) (.o2 .ieq (.uf 24 pmA) (.il 2)), 1), (.o2 .ieq (.uf 24 pmA) (.il 6), 6), (.bl true, 7)]
  fixed := []
  lt := .o2 .lt r14 pmN
  X := XCtr.none
  fuel := 400; np := 80
  params := [7041, 7042, 7043, 7044, 7045]
  kds := [(46, callK), (9, nmK)]

/-! ### two answers -/
def txG : LoopY := guardT 18 4 26 4 nmK 11 13 ([5] ++ js 14 26) 0 7050 2020 40 41 XCtr.none [(0, .dsl nmK (.v 7050)), (1, .dsl nmK (.v 7051))] [.v 7051] [7051]
def txE : E × Bool := (.o2 .ieq (.o1 .tlen (.v 7050)) (.o1 .tlen (.v 7051)), true)
def txY : LoopY := { txG with ent := fun m => txE :: txG.ent m, hd := fun m => ⟨(txG.hd m).ov, (txG.hd m).h, (txG.hd m).m, txE :: (txG.hd m).fs⟩, app := fun sl => match nth sl 0 with | some (.dsl ..) => true | _ => false }
/-- The calls of two answers: they are one. -/
def r16 : E := .v 2016
def csO (k : Nat) : SObj := .cells 40 [.int .i64 (.v k), .bool (.v (k + 1)), .dsl nmK (.v (k + 2)), .str (.v (k + 3)), .dsl callK (.v 7060)]
def csY : LoopY where
  f := 13; key := 4; N := 62; r := 2016; base := 21000
  js := [5] ++ js 31 45
  hd := fun _ => ⟨[(2, .ptr 1 (.c 0)), (3, .ptr 2 (.c 0)), (4, .bool (.bl false)), (28, .dsl callK (.v 7060)), (29, .int .i64 (.o1 .tlen (.v 7060))), (30, .int .i64 r16)], [(2, csO 7066), (1, csO 7062)], 9,
    [(.o2 .le (.il 0) r16, true), (.o2 .le r16 (.o1 .tlen (.v 7060)), true), (.o2 .le (.o1 .tlen (.v 7060)) (.il 9223372036854775807), true)]⟩
  ent := fun _ => [(.o2 .le (.o1 .tlen (.v 7060)) (.il 9223372036854775807), true)]
  app := fun _ => true
  ok0 := fun m => Nat.beq m 0
  modeL := fun _ => .ret 0
  tgt := fun m => Nat.beq m 0
  mf := fun _ => []
  hx := fun _ => ⟨[(2, .ptr 1 (.c 0)), (3, .ptr 2 (.c 0)), (4, .bool (.bl false)), (28, .top), (29, .top), (30, .top)], [(2, csO 7066), (1, csO 7062)], 9, []⟩
  xmL := fun ex _ => match ex with | .ret => .ret 1 | _ => .ret 0
  exN := fun n => match n with | 1 => .ret | _ => .exit 0
  exits := [(.bl false, 1), (.bl true, 0)]
  fixed := [1, 2]
  lt := .o2 .lt r16 (.o1 .tlen (.v 7060))
  X := XCtr.none
  fuel := 300; np := 60
  params := [7060, 7062, 7063, 7064, 7065, 7066, 7067, 7068, 7069]
/-! ### a list cut into pages -/
def r17 : E := .v 2017
def pcAt : E := .uf 51 (pk [.v 7080, .v 7081, r17])
def pcNx : E := .uf 51 (pk [.v 7080, .v 7081, .o2 .add r17 (.il 1)])
def pcT : E := .uf 50 (pk [.v 7080, .v 7081, .v 7082])
def pcY : LoopY where
  f := 17; key := 3; N := 47; r := 2017; base := 22000
  js := js 9 47
  hd := fun m => ⟨[(0, .dsl nmK (.v 7080)), (1, .int .i64 (.v 7081)), (2, .str (.v 7082)), (6, .nilsl), (7, match m with | 0 => .nilsl | _ => .sl 3 4 (.il 0) r17), (8, .int .i64 pcAt)],
    (match m with | 0 => [] | _ => [(3, .row 48 4 r17 [.tc (.sl nmK) pcT 0, .tc .str pcT 1, .tc .str pcT 2, .tc (.int .i64) pcT 3] [])]), 9,
    (match m with | 0 => [(.o2 .ieq r17 (.il 0), true), (.o2 .ieq pcAt (.il 0), true)] | _ => [(.o2 .lt (.il 0) r17, true), (.o2 .lt pcAt (.o1 .tlen (.v 7080)), true)]) ++
    [(.o2 .le (.il 0) r17, true), (.o2 .le r17 (.il 60), true), (.o2 .le (.il 0) pcAt, true), (.o2 .le pcAt (.o1 .tlen (.v 7080)), true), (.o2 .le (.o1 .tlen (.v 7080)) (.il 60), true), (.o2 .le (.il 0) (.v 7081), true), (.o2 .le (.v 7081) (.il 100), true)]⟩
  ent := fun _ => [(.o2 .le (.o1 .tlen (.v 7080)) (.il 60), true), (.o2 .le (.il 0) (.v 7081), true), (.o2 .le (.v 7081) (.il 100), true), (.uf 1 (pk [.v 7080]), false)]
  app := fun sl => match nth sl 1 with | some (.int _ (.il _)) => false | _ => true
  ok0 := fun m => Nat.beq m 0
  modeL := fun sl => match nth sl 7 with | some .nilsl => .ret 0 | some (.sl ..) => .ret 1 | _ => .fail
  tgt := fun m => Nat.beq m 1
  mf := fun m => match m with | 0 => [] | _ => [(.o2 .lt pcAt (.o1 .tlen (.v 7080)), true)]
  hx := fun _ => ⟨[(0, .top), (1, .top), (2, .top), (6, .dsl pgK pcT), (7, .top), (8, .top)], [], 9, []⟩
  xmL := fun _ _ => .ret 0
  exN := fun _ => .ret
  exits := [(.bl true, 0)]
  fixed := []
  lt := .o2 .lt (.o2 .add r17 (.il 1)) (.o1 .tlen pcT)
  X := XCtr.none
  fuel := 300; np := 60
  params := [7080, 7081, 7082]
  kds := [(48, pgK), (9, nmK)]
def c5 : Ctr := ⟨[(12, shutP true)], (13, 4, csY.lpP) :: (46, 7, pmY.lpP) :: (75, 2, gaY.lpP) :: (96, 2, gbY.lpP) :: (15, 8, spY.lpP) :: (18, 4, txY.lpP) :: c3.lps⟩
/-- Only lists that are data are walked as the contracts say. -/
def litF (f k : Nat) (sl : List SV) (h : CHeap) : Bool :=
  cond ((Nat.beq f 75 || Nat.beq f 96) && Nat.beq k 2) (match nth sl 0 with
    | some (.ptr n _) => (match cget h n with | some (.cells _ (.dsl _ _ :: _)) => true | _ => false)
    | _ => false) true
/-! ### the names of a whole list -/
def r18 : E := .v 2018
def cL : Ctr := ⟨[(12, shutP true)], []⟩
def nwY : LoopY where
  f := 5; key := 7; N := 217; r := 2018; base := 23000
  js := [11] ++ js 52 64
  hd := fun _ => ⟨[(8, .bool (.bl false)), (49, .dsl nmK (.v 7090)), (50, .int .i64 (.o1 .tlen (.v 7090))), (51, .int .i64 r18)], [], 9,
    [(.o2 .le (.il 0) r18, true), (.o2 .le r18 (.o1 .tlen (.v 7090)), true), (.o2 .le (.o1 .tlen (.v 7090)) (.il 9223372036854775807), true)]⟩
  ent := fun _ => [(.o2 .le (.o1 .tlen (.v 7090)) (.il 9223372036854775807), true)]
  app := fun _ => true
  ok0 := fun m => Nat.beq m 0
  modeL := fun _ => .ret 0
  tgt := fun m => Nat.beq m 0
  mf := fun _ => []
  hx := fun n => ⟨[(8, .bool (.bl (Nat.beq n 1))), (49, .dsl nmK (.v 7090)), (50, .top), (51, .top)], [], 9, []⟩
  xmL := fun ex _ => match ex with | .ret => .ret 1 | _ => .ret 0
  exN := fun n => match n with | 1 => .ret | _ => .exit 0
  exits := [(.uf 54 (pk [.v 7090]), 1), (.bl true, 0)]
  fixed := []
  lt := .o2 .lt r18 (.uf 55 (pk [.v 7090]))
  X := cL.x
  fuel := 300; np := 60
  params := [7090]
/-! ### the calls of a whole list -/
def r19 : E := .v 2019
def clA : E := pk [.v 7095, .v 7096, .v 7097, .v 7098]
def clE : Facts := [(.o2 .ieq (.o1 .tlen (.v 7095)) (.o1 .tlen (.v 7098)), true), (.o2 .le (.o1 .tlen (.v 7095)) (.il 9223372036854775807), true)]
def clY : LoopY where
  f := 5; key := 16; N := 217; r := 2019; base := 24000
  js := [13, 14] ++ js 104 148
  hd := fun _ => ⟨[(1, .int .i64 (.v 7096)), (2, .str (.v 7097)), (8, .bool (.bl false)), (9, .dsl pgK (.v 7098)), (101, .dsl callK (.v 7095)), (102, .int .i64 (.o1 .tlen (.v 7095))), (103, .int .i64 r19)], [], 9,
    [(.o2 .le (.il 0) r19, true), (.o2 .le r19 (.o1 .tlen (.v 7095)), true)] ++ clE⟩
  ent := fun _ => clE
  app := fun _ => true
  ok0 := fun m => Nat.beq m 0
  modeL := fun _ => .ret 0
  tgt := fun m => Nat.beq m 0
  mf := fun _ => []
  hx := fun n => ⟨[(1, .int .i64 (.v 7096)), (2, .str (.v 7097)), (8, .bool (.bl false)), (9, .dsl pgK (.v 7098)), (101, .top), (102, .top), (103, .top)], [], 9, []⟩
  xmL := fun ex _ => match ex with | .ret => .ret 1 | _ => .ret 0
  exN := fun n => match n with | 1 => .ret | _ => .exit 2
  exits := [(.uf 56 clA, 1), (.bl true, 0)]
  fixed := []
  lt := .o2 .lt r19 (.uf 57 clA)
  X := XCtr.none
  fuel := 300; np := 60
  params := [7095, 7096, 7097, 7098]
/-! ### impl.Pages, run once -/
def fA : E := pk [.v 7111, .v 7112, .v 7113, .v 7110, .v 7115]
def fN1 : E := .o2 .add (.uf 20 fA) (.il 1)
def fPg (i : E) (k : Nat) : E := .o2 (.cell k) (.v 7115) i
def fNm (x : E) : SV := .dsl nmK (.uf 12 (pk [x]))
def pgF : FunY where
  f := 14
  args := [.agg [.int .i64 (.v 7110), .bool (.v 7111), .str (.v 7112), .str (.v 7113), .int .i64 (.il 0)], .dsl pgK (.v 7115)]
  params := [7110, 7111, 7112, 7113, 7115]
  ent := [(.o2 .le (.o1 .tlen (.v 7115)) (.il 66), true), (.uf 7 (pk [.v 7115]), false), (.o2 .le (.il 0) (.v 7110), true), (.o2 .le (.v 7110) (.il 10000), true)]
  app := fun args => match args with | [.agg [_, _, _, _, .int _ (.il 0)], _] => true | _ => false
  kds := [(48, pgK)]
  exits := [1, 2, 3, 6].map (fun k => (.o2 .ieq (.uf 24 fA) (.il (k : Nat)), k)) ++ [(.bl true, 7)]
  kind := fun r => match r with
    | .agg (.int _ (.il 98) :: _) => some 1
    | .agg (.int _ (.il 8) :: _) => some 2
    | .agg (_ :: .bool (.bl false) :: _) => some 6
    | .agg (_ :: _ :: .dsl _ (.uf 12 (.o2 .cel (.uf 10 _) _)) :: _) => some 3
    | _ => some 7
  out := fun n => .agg [.int .i64 (.il (match n with | 1 => 98 | 2 => 8 | _ => 0)), .bool (match n with | 6 => .bl false | 3 => .bl true | 7 => .bl true | _ => .o2 .lt (.il 0) (.uf 20 fA)),
    (match n with | 3 => fNm (.uf 10 (pk [fPg fN1 0])) | 6 => fNm (.uf 10 (pk [fPg (.il 0) 0])) | 7 => fNm (.uf 22 (pk [.v 7115, fN1])) | _ => .nilsl),
    (match n with | 3 => .str (fPg fN1 2) | 6 => .str (fPg (.il 0) 2) | 7 => .str (fPg (.il 0) 2) | _ => .str (.sl [])), .dsl callK (.uf 25 fA)]
  X := c5.xf litF
  fuel := 400
  np := 80
def c6 : Ctr := ⟨[(12, shutP true), (14, pgF.funP)], [(17, 3, pcY.lpP), (5, 7, nwY.lpP), (5, 16, clY.lpP), (18, 4, txY.lpP), (16, 4, fits13.lpP)]⟩
end Go.Proofs.Ytgopjdknmjjheaa.sxPages

namespace Go.Proofs.Ytgopjdknmjjheaa.sxPages
open Go.Sx Go.RowKit
set_option linter.unusedVariables false

/-- One of some things that stand as one. -/
def ar (d : Dv) (k : Nat) : Dv := cc (row d 0) k
theorem ar_0 {a b : Dv} : ar (O2.den .cel a b) 0 = a := id rfl
theorem ar_1 {a b c : Dv} : ar (O2.den .cel a (O2.den .cel b c)) 1 = b := id rfl
theorem ar_2 {a b c d : Dv} : ar (O2.den .cel a (O2.den .cel b (O2.den .cel c d))) 2 = c := id rfl
theorem ar_3 {a b c d e : Dv} : ar (O2.den .cel a (O2.den .cel b (O2.den .cel c (O2.den .cel d e)))) 3 = d := id rfl
theorem ar_4 {a b c d e f : Dv} : ar (O2.den .cel a (O2.den .cel b (O2.den .cel c (O2.den .cel d (O2.den .cel e f))))) 4 = e := id rfl
theorem ar_5 {a b c d e f g : Dv} : ar (O2.den .cel a (O2.den .cel b (O2.den .cel c (O2.den .cel d (O2.den .cel e (O2.den .cel f g)))))) 5 = f := id rfl
def nos : ByteArray := ⟨#[]⟩

/-! ### guards -/
def most (z : Int) : Bool := decide (2147483647 < z)
def B1 (d : Dv) (i : Nat) : Bool := most ((cc (row d i) 0).S.size : Int)
def bad3 (l : List Dv) : Bool := most ((cc l 0).T.length : Int) || anyB (B1 (cc l 0)) (cc l 0).T.length || most ((cc l 1).S.size : Int) || most ((cc l 2).S.size : Int)
def B3 (d : Dv) (i : Nat) : Bool := bad3 (row d i)
def B5 (d : Dv) (i : Nat) : Bool := ((cc (row d i) 0).S.toList == []) || decide (40 < ((cc (row d i) 0).S.size : Int))
def okPg (l : List Dv) : Bool :=
  decide (((cc l 0).T.length : Int) ≤ 60) && decide (((cc l 1).S.size : Int) ≤ 40) && decide (((cc l 2).S.size : Int) ≤ 40) && (decide ((cc l 3).I = 0) || decide ((cc l 3).I = 8) || decide ((cc l 3).I = 98)) && !anyB (B5 (cc l 0)) (cc l 0).T.length
def B7 (d : Dv) (i : Nat) : Bool := !okPg (row d i)

/-! ### a pager -/
def nmsAt (pg : Dv) (i : Nat) : Dv := cc (row pg i) 0
def frAt (pg : Dv) (i : Nat) : ByteArray := (cc (row pg i) 1).S
def rvAt (pg : Dv) (i : Nat) : ByteArray := (cc (row pg i) 2).S
def erAt (pg : Dv) (i : Nat) : Int := (cc (row pg i) 3).I
def objR (nm : Dv) : List Dv := [.s nos, nm, .s nos, .s nos, .i 0, .s nos, .b false, .b false, .i 0]
def itms (d : Dv) : List (List Dv) := d.T.map fun r => [.t [objR (cc r 0)]]
def nameOf (r : List Dv) : List Dv := [cc (((cc r 0).T[0]?).getD []) 1]
def Bend (pg : Dv) (i : Nat) : Bool := !decide (erAt pg i = 0) || ((frAt pg i).toList == [])
def endN (pg : Dv) : Nat := stop (Bend pg) pg.T.length
def callAt (lim rv mt pg : Dv) (j : Nat) : List Dv := if j = 0 then [lim, .s nos, rv, mt] else [lim, cc (row pg (j - 1)) 1, .s nos, .s nos]
def callsN (lim rv mt pg : Dv) : List (List Dv) := (List.range (endN pg + 1)).map (callAt lim rv mt pg)
def itmsTo (pg : Dv) (r : Nat) : List (List Dv) := (List.range r).flatMap fun j => itms (nmsAt pg j)
def nmsTo (pg : Dv) (r : Nat) : List (List Dv) := (List.range r).flatMap fun j => (nmsAt pg j).T
/-- Is all listed, behind a page that has expired? -/
def again (full : Bool) (pg : Dv) : Bool := decide (erAt pg (endN pg) = 8) && full && decide (0 < endN pg)
def kindN (full : Bool) (pg : Dv) : Int :=
  if erAt pg (endN pg) = 0 then (if endN pg = 0 then 6 else 7)
  else if again full pg = true then (if erAt pg (endN pg + 1) = 0 then 3 else if erAt pg (endN pg + 1) = 8 then 2 else 1)
  else if erAt pg (endN pg) = 8 then 2 else 1
def callsF (full : Bool) (lim rv mt pg : Dv) : List (List Dv) := callsN lim rv mt pg ++ (if again full pg = true then [[.i 0, .s nos, rv, mt]] else [])
def namesF (full : Bool) (pg : Dv) : List (List Dv) := if kindN full pg = 3 then (nmsAt pg (endN pg + 1)).T else nmsTo pg (endN pg + 1)
def rvF (full : Bool) (pg : Dv) : ByteArray := if kindN full pg = 3 then rvAt pg (endN pg + 1) else rvAt pg 0
def errF (full : Bool) (pg : Dv) : Int := if again full pg = true then erAt pg (endN pg + 1) else erAt pg (endN pg)
/-- Objects without labels. -/
def okIt (l : List (List Dv)) : Bool := l.all fun r => decide ((cc (((cc r 0).T[0]?).getD []) 4).T.length = 0)
def Btx (d e : Dv) (i : Nat) : Bool := !((cc (row d i) 0).S.toList == (cc (row e i) 0).S.toList)

/-! ### a whole list, cut into pages -/
def posN (nm : Dv) (sz : Int) : Nat → Nat
  | 0 => 0
  | i + 1 => if 0 < sz then min nm.T.length ((i + 1) * sz.toNat) else nm.T.length
def lastN (nm : Dv) (sz : Int) : Nat := stop (fun i => decide (posN nm sz (i + 1) = nm.T.length)) nm.T.length
def behind : ByteArray := "behind ".toUTF8
def cutRow (nm : Dv) (sz : Int) (rv : Dv) (i : Nat) : List Dv :=
  [.t ((nm.T.take (posN nm sz (i + 1))).drop (posN nm sz i)), .s (if posN nm sz (i + 1) < nm.T.length then behind ++ (cc (row nm (posN nm sz (i + 1) - 1)) 0).S else nos), rv, .i 0]
def cutP (nm : Dv) (sz : Int) (rv : Dv) : List (List Dv) := (List.range (lastN nm sz + 1)).map (cutRow nm sz rv)
def B9 (d : Dv) (i : Nat) : Bool := ((cc (row d i) 0).S.toList == []) || decide (30 < ((cc (row d i) 0).S.size : Int))
def Bcl (cs : Dv) (sz : Int) (rv : ByteArray) (pg : Dv) (i : Nat) : Bool :=
  !decide ((cc (row cs i) 0).I = sz) || (if 0 < i then !((cc (row cs i) 1).S.toList == (cc (row pg (i - 1)) 1).S.toList) || !((cc (row cs i) 2).S.toList == []) else !((cc (row cs i) 1).S.toList == []) || !((cc (row cs i) 2).S.toList == rv.toList))

def UF (c : Nat) (d : Dv) : Dv :=
  match c with
  | 1 => .b (anyB (B1 (ar d 0)) (ar d 0).T.length)
  | 2 => .i (stop (B1 (ar d 0)) (ar d 0).T.length)
  | 3 => .b (anyB (B3 (ar d 0)) (ar d 0).T.length)
  | 4 => .i (stop (B3 (ar d 0)) (ar d 0).T.length)
  | 5 => .b (anyB (B5 (ar d 0)) (ar d 0).T.length)
  | 6 => .i (stop (B5 (ar d 0)) (ar d 0).T.length)
  | 7 => .b (anyB (B7 (ar d 0)) (ar d 0).T.length)
  | 8 => .i (stop (B7 (ar d 0)) (ar d 0).T.length)
  | 10 => .t (itms (ar d 0))
  | 11 => .t ((ar d 0).T ++ ((ar d 1).T.take (ar d 2).I.toNat).map fun r => [cc r 0])
  | 12 => .t ((ar d 0).T.map nameOf)
  | 13 => .b (okIt (ar d 0).T)
  | 20 => .i (endN (ar d 4))
  | 21 => .t (callsN (ar d 3) (ar d 1) (ar d 2) (ar d 4))
  | 22 => .t (itmsTo (ar d 0) (ar d 1).I.toNat)
  | 23 => .t (nmsTo (ar d 0) (ar d 1).I.toNat)
  | 24 => .i (kindN (ar d 0).B (ar d 4))
  | 25 => .t (callsF (ar d 0).B (ar d 3) (ar d 1) (ar d 2) (ar d 4))
  | 26 => .t (namesF (ar d 0).B (ar d 4))
  | 27 => .s (rvF (ar d 0).B (ar d 4))
  | 28 => .i (errF (ar d 0).B (ar d 4))
  | 40 => .b (anyB (Btx (ar d 0) (ar d 1)) (ar d 0).T.length)
  | 41 => .i (stop (Btx (ar d 0) (ar d 1)) (ar d 0).T.length)
  | 50 => .t (cutP (ar d 0) (ar d 1).I (ar d 2))
  | 51 => .i (posN (ar d 0) (ar d 1).I (ar d 2).I.toNat)
  | 54 => .b (anyB (B9 (ar d 0)) (ar d 0).T.length)
  | 55 => .i (stop (B9 (ar d 0)) (ar d 0).T.length)
  | 56 => .b (anyB (Bcl (ar d 0) (ar d 1).I (ar d 2).S (ar d 3)) (ar d 0).T.length)
  | 57 => .i (stop (Bcl (ar d 0) (ar d 1).I (ar d 2).S (ar d 3)) (ar d 0).T.length)
  | _ => .i 0
theorem UF_1 (d : Dv) : UF 1 d = .b (anyB (B1 (ar d 0)) (ar d 0).T.length) := id rfl
theorem UF_2 (d : Dv) : UF 2 d = .i (stop (B1 (ar d 0)) (ar d 0).T.length) := id rfl
theorem UF_3 (d : Dv) : UF 3 d = .b (anyB (B3 (ar d 0)) (ar d 0).T.length) := id rfl
theorem UF_4 (d : Dv) : UF 4 d = .i (stop (B3 (ar d 0)) (ar d 0).T.length) := id rfl
theorem UF_5 (d : Dv) : UF 5 d = .b (anyB (B5 (ar d 0)) (ar d 0).T.length) := id rfl
theorem UF_6 (d : Dv) : UF 6 d = .i (stop (B5 (ar d 0)) (ar d 0).T.length) := id rfl
theorem UF_7 (d : Dv) : UF 7 d = .b (anyB (B7 (ar d 0)) (ar d 0).T.length) := id rfl
theorem UF_8 (d : Dv) : UF 8 d = .i (stop (B7 (ar d 0)) (ar d 0).T.length) := id rfl
theorem UF_10 (d : Dv) : UF 10 d = .t (itms (ar d 0)) := id rfl
theorem UF_11 (d : Dv) : UF 11 d = .t ((ar d 0).T ++ ((ar d 1).T.take (ar d 2).I.toNat).map fun r => [cc r 0]) := id rfl
theorem UF_12 (d : Dv) : UF 12 d = .t ((ar d 0).T.map nameOf) := id rfl
theorem UF_13 (d : Dv) : UF 13 d = .b (okIt (ar d 0).T) := id rfl
theorem UF_20 (d : Dv) : UF 20 d = .i (endN (ar d 4)) := id rfl
theorem UF_21 (d : Dv) : UF 21 d = .t (callsN (ar d 3) (ar d 1) (ar d 2) (ar d 4)) := id rfl
theorem UF_22 (d : Dv) : UF 22 d = .t (itmsTo (ar d 0) (ar d 1).I.toNat) := id rfl
theorem UF_23 (d : Dv) : UF 23 d = .t (nmsTo (ar d 0) (ar d 1).I.toNat) := id rfl
theorem UF_24 (d : Dv) : UF 24 d = .i (kindN (ar d 0).B (ar d 4)) := id rfl
theorem UF_25 (d : Dv) : UF 25 d = .t (callsF (ar d 0).B (ar d 3) (ar d 1) (ar d 2) (ar d 4)) := id rfl
theorem UF_26 (d : Dv) : UF 26 d = .t (namesF (ar d 0).B (ar d 4)) := id rfl
theorem UF_27 (d : Dv) : UF 27 d = .s (rvF (ar d 0).B (ar d 4)) := id rfl
theorem UF_28 (d : Dv) : UF 28 d = .i (errF (ar d 0).B (ar d 4)) := id rfl
theorem UF_40 (d : Dv) : UF 40 d = .b (anyB (Btx (ar d 0) (ar d 1)) (ar d 0).T.length) := id rfl
theorem UF_41 (d : Dv) : UF 41 d = .i (stop (Btx (ar d 0) (ar d 1)) (ar d 0).T.length) := id rfl
theorem UF_50 (d : Dv) : UF 50 d = .t (cutP (ar d 0) (ar d 1).I (ar d 2)) := id rfl
theorem UF_51 (d : Dv) : UF 51 d = .i (posN (ar d 0) (ar d 1).I (ar d 2).I.toNat) := id rfl
theorem UF_54 (d : Dv) : UF 54 d = .b (anyB (B9 (ar d 0)) (ar d 0).T.length) := id rfl
theorem UF_55 (d : Dv) : UF 55 d = .i (stop (B9 (ar d 0)) (ar d 0).T.length) := id rfl
theorem UF_56 (d : Dv) : UF 56 d = .b (anyB (Bcl (ar d 0) (ar d 1).I (ar d 2).S (ar d 3)) (ar d 0).T.length) := id rfl
theorem UF_57 (d : Dv) : UF 57 d = .i (stop (Bcl (ar d 0) (ar d 1).I (ar d 2).S (ar d 3)) (ar d 0).T.length) := id rfl

/-! ### the plain law's parts -/
theorem stop_is {B : Nat → Bool} {n i : Nat} (hi : i ≤ stop B n) (h : ¬ i < n ∨ B i = true) : stop B n = i := by
  have h1 := @stop_le B n
  rcases Nat.lt_or_ge i (stop B n) with hlt | hge
  · have h2 := stop_before hlt
    rcases h with h | h
    · omega
    · rw [h2] at h; cases h
  · omega
theorem end_is {pg : Dv} {i : Nat} (hi : i ≤ endN pg) (h : ¬ i < pg.T.length ∨ erAt pg i ≠ 0 ∨ (frAt pg i).toList = []) : endN pg = i := by
  refine stop_is hi ?_
  rcases h with h | h | h
  · exact .inl h
  · exact .inr (by simp [Bend, h])
  · exact .inr (by simp [Bend, h])
theorem end_gt {pg : Dv} {i : Nat} (hi : i ≤ endN pg) (h1 : i < pg.T.length) (h2 : erAt pg i = 0) (h3 : (frAt pg i).toList ≠ []) : i < endN pg := by
  refine stop_no hi h1 ?_
  simp [Bend, h2, h3]
theorem end_lt {pg : Dv} {i : Nat} (h : i < endN pg) : i < pg.T.length ∧ erAt pg i = 0 ∧ (frAt pg i).toList ≠ [] := by
  have h1 := @stop_le (Bend pg) pg.T.length
  have h2 := stop_before (bad := Bend pg) (n := pg.T.length) h
  simp only [Bend, Bool.or_eq_false_iff, Bool.not_eq_false', decide_eq_true_eq] at h2
  unfold endN at h
  refine ⟨by omega, h2.1, fun e => ?_⟩
  rw [e] at h2
  exact absurd h2.2 (by decide)
theorem end_le {pg : Dv} : endN pg ≤ pg.T.length := stop_le
theorem row_out {pg : Dv} {i : Nat} (h : ¬ i < pg.T.length) : row pg i = [] := by
  unfold row; rw [List.getElem?_eq_none (by omega)]; rfl
theorem calls_len {lim rv mt pg : Dv} : (callsN lim rv mt pg).length = endN pg + 1 := by unfold callsN; simp
theorem calls_row {lim rv mt pg : Dv} {j : Nat} (h : j ≤ endN pg) : row (.t (callsN lim rv mt pg)) j = callAt lim rv mt pg j := by
  show ((callsN lim rv mt pg)[j]?).getD [] = _
  unfold callsN
  rw [List.getElem?_map, List.getElem?_range (by omega)]; rfl
theorem calls_take {lim rv mt pg : Dv} {i : Nat} (h : endN pg = i) : (callsN lim rv mt pg).take i ++ [callAt lim rv mt pg i] = callsN lim rv mt pg := by
  unfold callsN
  rw [h, List.range_succ, List.map_append, List.take_left' (by simp)]
  rfl
theorem itms_id {d : Dv} : (itms d).map (fun r => [cc r 0]) = itms d := by
  unfold itms
  rw [List.map_map]
  rfl
theorem itmsTo_succ {pg : Dv} {r : Nat} : itmsTo pg (r + 1) = itmsTo pg r ++ itms (nmsAt pg r) := by
  unfold itmsTo
  rw [List.range_succ, List.flatMap_append]; simp
theorem nmsTo_succ {pg : Dv} {r : Nat} : nmsTo pg (r + 1) = nmsTo pg r ++ (nmsAt pg r).T := by
  unfold nmsTo
  rw [List.range_succ, List.flatMap_append]; simp
theorem itmsTo_0 {pg : Dv} : itmsTo pg 0 = [] := rfl
theorem nmsTo_0 {pg : Dv} : nmsTo pg 0 = [] := rfl
theorem itms_len {d : Dv} : (itms d).length = d.T.length := by unfold itms; simp
theorem itms_out {pg : Dv} {i : Nat} (h : ¬ i < pg.T.length) : itms (nmsAt pg i) = [] := by unfold nmsAt; rw [row_out h]; rfl
/-- What is so of pages of which the law speaks. -/
theorem good_pg {pg : Dv} (h : anyB (B7 pg) pg.T.length = false) (i : Nat) : (nmsAt pg i).T.length ≤ 60 ∧ (erAt pg i = 0 ∨ erAt pg i = 8 ∨ erAt pg i = 98) := by
  by_cases hi : i < pg.T.length
  · have := anyB_false h i hi
    simp only [B7, okPg, Bool.not_eq_false', Bool.and_eq_true, Bool.or_eq_true, decide_eq_true_eq] at this
    unfold nmsAt erAt
    omega
  · unfold nmsAt erAt
    rw [row_out hi]
    exact ⟨by decide, .inl rfl⟩
theorem itmsTo_len {pg : Dv} (h : anyB (B7 pg) pg.T.length = false) : ∀ r, (itmsTo pg r).length ≤ 60 * r
  | 0 => by simp [itmsTo_0]
  | r + 1 => by
    rw [itmsTo_succ, List.length_append, itms_len]
    have := itmsTo_len h r
    have := (good_pg h r).1
    omega
theorem nmsTo_len {pg : Dv} (h : anyB (B7 pg) pg.T.length = false) : ∀ r, (nmsTo pg r).length ≤ 60 * r
  | 0 => by simp [nmsTo_0]
  | r + 1 => by
    rw [nmsTo_succ, List.length_append]
    have := nmsTo_len h r
    have := (good_pg h r).1
    omega
theorem size0 {s : ByteArray} : ((s.size : Int) = 0) = (s.toList = []) := by
  obtain ⟨a⟩ := s
  rw [ByteArray.toList_mk]
  have : (ByteArray.mk a).size = a.toList.length := by simp [ByteArray.size]
  rw [this]
  apply propext
  constructor
  · intro h; exact List.eq_nil_of_length_eq_zero (by omega)
  · intro h; rw [h]; rfl
end Go.Proofs.Ytgopjdknmjjheaa.sxPages

namespace Go.Proofs.Ytgopjdknmjjheaa.sxPages
open Go.Sx
set_option linter.unusedVariables false
abbrev ql0 : E := .o2 .lt (.il 2147483647) (.o1 .size (.o2 (.cell 0) (.v 7000) (.v 2000)))
abbrev ql1 : E := .o2 .lt (.v 2000) (.o1 .tlen (.v 7000))
abbrev ql2 : Facts := [(ql1, true)]
abbrev ql3 : E := .uf 1 (.o2 .cel (.v 7000) (.il 0))
def fits13L0 : List (Facts × List Ob) :=
  [((((ql0, true) : E × Bool) :: ql2),
    [(.e ql3)]),
   ((((ql0, false) : E × Bool) :: ql2),
    [(.e (.o2 .lt (.v 2000) (.uf 2 (.o2 .cel (.v 7000) (.il 0)))))]),
   ([(ql1, false)],
    [(.e (.o1 .not ql3))])]
abbrev ql4 : E := .o2 .lt (.il 2147483647) (.o1 .tlen (.o2 (.cell 0) (.v 7001) (.v 2001)))
abbrev ql5 : E := .o2 .lt (.v 2001) (.o1 .tlen (.v 7001))
abbrev ql6 : Facts := [(ql5, true)]
abbrev ql7 : E := .uf 3 (.o2 .cel (.v 7001) (.il 0))
abbrev ql8 : E := .uf 1 (.o2 .cel (.o2 (.cell 0) (.v 7001) (.v 2001)) (.il 0))
abbrev ql9 : Facts := ((ql4, false) : E × Bool) :: ql6
abbrev ql10 : E := .o2 .lt (.il 2147483647) (.o1 .size (.o2 (.cell 1) (.v 7001) (.v 2001)))
abbrev ql11 : Facts := ((ql8, false) : E × Bool) :: ql9
abbrev ql12 : E := .o2 .lt (.il 2147483647) (.o1 .size (.o2 (.cell 2) (.v 7001) (.v 2001)))
abbrev ql13 : Facts := ((ql10, false) : E × Bool) :: ql11
def fits27L0 : List (Facts × List Ob) :=
  [((((ql4, true) : E × Bool) :: ql6),
    [(.e ql7)]),
   ((((ql8, true) : E × Bool) :: ql9),
    [(.e ql7)]),
   ((((ql10, true) : E × Bool) :: ql11),
    [(.e ql7)]),
   ((((ql12, true) : E × Bool) :: ql13),
    [(.e ql7)]),
   ((((ql12, false) : E × Bool) :: ql13),
    [(.e (.o2 .lt (.v 2001) (.uf 4 (.o2 .cel (.v 7001) (.il 0)))))]),
   ([(ql5, false)],
    [(.e (.o1 .not ql7))])]
abbrev ql14 : E := .o2 .seq (.o2 (.cell 0) (.v 7002) (.v 2002)) (.sl [])
abbrev ql15 : E := .o2 .lt (.v 2002) (.o1 .tlen (.v 7002))
abbrev ql16 : Facts := [(ql15, true)]
abbrev ql17 : E := .uf 5 (.o2 .cel (.v 7002) (.il 0))
abbrev ql18 : E := .o2 .lt (.il 40) (.o1 .size (.o2 (.cell 0) (.v 7002) (.v 2002)))
abbrev ql19 : Facts := ((ql14, false) : E × Bool) :: ql16
def goodNL0 : List (Facts × List Ob) :=
  [((((ql14, true) : E × Bool) :: ql16),
    [(.e ql17)]),
   ((((ql18, true) : E × Bool) :: ql19),
    [(.e ql17)]),
   ((((ql18, false) : E × Bool) :: ql19),
    [(.e (.o2 .lt (.v 2002) (.uf 6 (.o2 .cel (.v 7002) (.il 0)))))]),
   ([(ql15, false)],
    [(.e (.o1 .not ql17))])]
abbrev ql20 : E := .o2 .lt (.il 60) (.o1 .tlen (.o2 (.cell 0) (.v 7003) (.v 2003)))
abbrev ql21 : E := .o2 .lt (.v 2003) (.o1 .tlen (.v 7003))
abbrev ql22 : Facts := [(ql21, true)]
abbrev ql23 : E := .uf 7 (.o2 .cel (.v 7003) (.il 0))
abbrev ql24 : E := .o2 .lt (.il 40) (.o1 .size (.o2 (.cell 1) (.v 7003) (.v 2003)))
abbrev ql25 : Facts := ((ql20, false) : E × Bool) :: ql22
abbrev ql26 : E := .o2 .lt (.il 40) (.o1 .size (.o2 (.cell 2) (.v 7003) (.v 2003)))
abbrev ql27 : Facts := ((ql24, false) : E × Bool) :: ql25
abbrev ql28 : E := .uf 5 (.o2 .cel (.o2 (.cell 0) (.v 7003) (.v 2003)) (.il 0))
abbrev ql29 : E := .o2 .ieq (.o2 (.cell 3) (.v 7003) (.v 2003)) (.il 0)
abbrev ql30 : Facts := ((ql26, false) : E × Bool) :: ql27
abbrev ql31 : Facts := ((ql29, true) : E × Bool) :: ql30
abbrev ql32 : List Ob := [(.e (.o2 .lt (.v 2003) (.uf 8 (.o2 .cel (.v 7003) (.il 0)))))]
abbrev ql33 : E := .o2 .ieq (.o2 (.cell 3) (.v 7003) (.v 2003)) (.il 8)
abbrev ql34 : Facts := ((ql29, false) : E × Bool) :: ql30
abbrev ql35 : Facts := ((ql33, true) : E × Bool) :: ql34
abbrev ql36 : E := .o2 .ieq (.o2 (.cell 3) (.v 7003) (.v 2003)) (.il 98)
abbrev ql37 : Facts := ((ql33, false) : E × Bool) :: ql34
abbrev ql38 : Facts := ((ql36, true) : E × Bool) :: ql37
def goodL0 : List (Facts × List Ob) :=
  [((((ql20, true) : E × Bool) :: ql22),
    [(.e ql23)]),
   ((((ql24, true) : E × Bool) :: ql25),
    [(.e ql23)]),
   ((((ql26, true) : E × Bool) :: ql27),
    [(.e ql23)]),
   ((((ql28, true) : E × Bool) :: ql31),
    [(.e ql23)]),
   ((((ql28, false) : E × Bool) :: ql31),
    ql32),
   ((((ql28, true) : E × Bool) :: ql35),
    [(.e ql23)]),
   ((((ql28, false) : E × Bool) :: ql35),
    ql32),
   ((((ql28, true) : E × Bool) :: ql38),
    [(.e ql23)]),
   ((((ql28, false) : E × Bool) :: ql38),
    ql32),
   ((((ql36, false) : E × Bool) :: ql37),
    [(.e ql23)]),
   ([(ql21, false)],
    [(.e (.o1 .not ql23))])]
abbrev ql39 : E := .o2 .lt (.v 2010) (.o1 .tlen (.o2 (.cell 0) (.v 7010) (.v 7011)))
abbrev ql40 : Facts := [(ql39, true)]
abbrev ql41 : E := .o2 .cel (.sl []) (.o2 .cel (.o2 (.cell 0) (.o2 (.cell 0) (.v 7010) (.v 7011)) (.v 2010)) (.o2 .cel (.sl []) (.o2 .cel (.sl []) (.o2 .cel (.il 0) (.o2 .cel (.sl []) (.o2 .cel (.bl false) (.o2 .cel (.bl false) (.o2 .cel (.il 0) (.il 0)))))))))
abbrev ql42 : E := .uf 10 (.o2 .cel (.o2 (.cell 0) (.v 7010) (.v 7011)) (.il 0))
abbrev ql43 : Facts := [(ql39, false)]
def inYL0 : List (Facts × List Ob) :=
  [(ql40,
    [(.t ql41 (.o2 (.cell 0) ql42 (.il 0)))]),
   (ql43,
    [(.t (.il 0) ql42)])]
def inYL1 : List (Facts × List Ob) :=
  [(ql40,
    [(.t ql41 (.o2 (.cell 0) ql42 (.v 2010)))]),
   (ql43,
    [(.e (.o2 .le (.v 2010) (.o1 .tlen ql42))), (.t (.o2 .ttake ql42 (.v 2010)) ql42)])]
abbrev ql44 : E := .o2 .lt (.v 2011) (.o1 .tlen (.v 7021))
abbrev ql45 : E := .uf 11 (.o2 .cel (.v 7020) (.o2 .cel (.v 7021) (.o2 .cel (.v 2011) (.il 0))))
abbrev ql46 : E := .uf 11 (.o2 .cel (.v 7020) (.o2 .cel (.v 7021) (.o2 .cel (.o2 .add (.v 2011) (.il 1)) (.il 0))))
abbrev ql47 : E := .o1 .tlen ql45
abbrev ql48 : E := .uf 11 (.o2 .cel (.v 7020) (.o2 .cel (.v 7021) (.o2 .cel (.o1 .tlen (.v 7021)) (.il 0))))
def agYL0 : List (Facts × List Ob) :=
  [([(ql44, true)],
    [(.t (.o2 .tcat ql45 (.o2 .cel (.o2 (.cell 0) (.v 7021) (.v 2011)) (.il 0))) ql46), (.e (.o2 .ieq (.o2 .add ql47 (.il 1)) (.o1 .tlen ql46)))]),
   ([(ql44, false)],
    [(.t ql45 ql48), (.e (.o2 .ieq ql47 (.o1 .tlen ql48)))])]
abbrev ql49 : E := .o2 .lt (.v 2012) (.o1 .tlen (.v 7030))
abbrev ql50 : Facts := [(ql49, true)]
abbrev ql51 : E := .o2 (.cell 1) (.o2 (.cell 0) (.v 7030) (.v 2012)) (.il 0)
abbrev ql52 : E := .uf 12 (.o2 .cel (.v 7030) (.il 0))
abbrev ql53 : List Ob := [(.e (.o2 .seq ql51 (.o2 (.cell 0) ql52 (.il 0))))]
abbrev ql54 : Facts := [(ql49, false)]
abbrev ql55 : List Ob := [(.t (.il 0) ql52)]
def gaYL0 : List (Facts × List Ob) :=
  [(ql50,
    ql53),
   (ql54,
    ql55)]
abbrev ql56 : List Ob := [(.e (.o2 .seq ql51 (.o2 (.cell 0) ql52 (.v 2012))))]
abbrev ql57 : List Ob := [(.e (.o2 .le (.v 2012) (.o1 .tlen ql52))), (.t (.o2 .ttake ql52 (.v 2012)) ql52)]
def gaYL1 : List (Facts × List Ob) :=
  [(ql50,
    ql56),
   (ql54,
    ql57)]
def gbYL0 : List (Facts × List Ob) :=
  [(ql50,
    ql53),
   (ql54,
    ql55)]
def gbYL1 : List (Facts × List Ob) :=
  [(ql50,
    ql56),
   (ql54,
    ql57)]
abbrev ql58 : E := .o2 .le (.o1 .tlen (.v 7045)) (.il 0)
abbrev ql59 : E := .o2 .cel (.v 7041) (.o2 .cel (.v 7042) (.o2 .cel (.v 7043) (.o2 .cel (.v 7044) (.o2 .cel (.v 7045) (.il 0)))))
abbrev ql60 : E := .o2 .ieq (.uf 24 ql59) (.il 1)
abbrev ql61 : E := .o2 .ieq (.uf 24 ql59) (.il 2)
abbrev ql62 : E := .o2 .ieq (.uf 24 ql59) (.il 3)
abbrev ql63 : E := .o2 .ieq (.uf 24 ql59) (.il 6)
abbrev ql64 : E := .uf 10 (.o2 .cel (.o2 (.cell 0) (.v 7045) (.il 0)) (.il 0))
abbrev ql65 : E := .o2 .cel (.sl []) (.o2 .cel (.v 7042) (.o2 .cel (.v 7043) (.il 0)))
abbrev ql66 : List Ob := [(.t (.o2 .cel (.v 7044) ql65) (.uf 25 ql59))]
abbrev ql67 : E := .o2 .ieq (.o1 .size (.o2 (.cell 1) (.v 7045) (.il 0))) (.il 0)
abbrev ql68 : E := .o2 .ieq (.o2 (.cell 3) (.v 7045) (.il 0)) (.il 0)
abbrev ql69 : Facts := [(ql58, false)]
abbrev ql70 : Facts := ((ql68, true) : E × Bool) :: ql69
abbrev ql71 : E := .o1 .tlen (.uf 11 (.o2 .cel (.il 0) (.o2 .cel ql64 (.o2 .cel (.il 0) (.il 0)))))
abbrev ql72 : E := .o1 .tlen ql64
abbrev ql73 : E := .uf 11 (.o2 .cel (.il 0) (.o2 .cel ql64 (.o2 .cel ql72 (.il 0))))
abbrev ql74 : E := .uf 22 (.o2 .cel (.v 7045) (.o2 .cel (.o2 .add (.v 2013) (.il 1)) (.il 0)))
abbrev ql75 : E := .o1 .tlen ql74
abbrev ql76 : E := .o2 (.cell 1) (.v 7045) (.o2 .sub (.o2 .add (.v 2013) (.il 1)) (.il 1))
abbrev ql77 : E := .o2 .ieq (.o2 (.cell 3) (.v 7045) (.il 0)) (.il 8)
abbrev ql78 : Facts := ((ql68, false) : E × Bool) :: ql69
abbrev ql79 : Facts := ((ql77, true) : E × Bool) :: ql78
abbrev ql80 : E := .o2 .lt (.il 0) (.uf 20 ql59)
abbrev ql81 : List Ob := ((.e (.o2 .beq (.bl false) ql80)) : Ob) :: ql66
abbrev ql82 : List Ob := ((.e (.o1 .not ql60)) : Ob) :: ((.e ql61) : Ob) :: ql81
def pmYL0 : List (Facts × List Ob) :=
  [([(ql58, true)],
    (((.e (.o1 .not ql60)) : Ob) :: ((.e (.o1 .not ql61)) : Ob) :: ((.e (.o1 .not ql62)) : Ob) :: ((.e ql63) : Ob) :: ((.t (.il 0) ql64) : Ob) :: ((.e (.o2 .seq (.sl []) (.o2 (.cell 2) (.v 7045) (.il 0)))) : Ob) :: ((.e (.o2 .seq (.sl []) (.o2 (.cell 1) (.v 7045) (.il 0)))) : Ob) :: ql66)),
   ((((ql67, true) : E × Bool) :: ql70),
    (((.e (.o1 .not ql60)) : Ob) :: ((.e (.o1 .not ql61)) : Ob) :: ((.e (.o1 .not ql62)) : Ob) :: ((.e ql63) : Ob) :: ql66)),
   ((((ql67, false) : E × Bool) :: ql70),
    [(.e (.o2 .lt (.v 2013) (.uf 20 ql59))), (.e (.o2 .ieq (.il 0) ql71)), (.e (.o2 .ieq ql71 (.il 0))), (.e (.o2 .le ql72 (.il 1000))), (.e (.o2 .ieq (.v 7044) (.o2 (.cell 0) (.uf 21 ql59) (.il 0)))), (.e (.o2 .seq (.sl []) (.o2 (.cell 1) (.uf 21 ql59) (.il 0)))), (.e (.o2 .seq (.v 7042) (.o2 (.cell 2) (.uf 21 ql59) (.il 0)))), (.e (.o2 .seq (.v 7043) (.o2 (.cell 3) (.uf 21 ql59) (.il 0)))), (.t ql73 ql74), (.e (.o2 .ieq (.o1 .tlen ql73) ql75)), (.e (.o2 .seq (.o2 (.cell 1) (.v 7045) (.il 0)) ql76))]),
   (((((.v 7041), true) : E × Bool) :: ql79),
    ql82),
   (((((.v 7041), false) : E × Bool) :: ql79),
    ql82),
   ((((ql77, false) : E × Bool) :: ql78),
    (((.e ql60) : Ob) :: ql81))]
abbrev ql83 : E := .o2 .le (.o1 .tlen (.v 7045)) (.v 2013)
abbrev ql84 : E := .uf 22 (.o2 .cel (.v 7045) (.o2 .cel (.v 2013) (.il 0)))
abbrev ql85 : E := .o1 .tlen ql84
abbrev ql86 : E := .uf 11 (.o2 .cel ql84 (.o2 .cel (.il 0) (.o2 .cel (.il 0) (.il 0))))
abbrev ql87 : E := .o1 .tlen (.uf 21 ql59)
abbrev ql88 : E := .o2 .add (.uf 20 ql59) (.il 1)
abbrev ql89 : E := .uf 22 (.o2 .cel (.v 7045) (.o2 .cel ql88 (.il 0)))
abbrev ql90 : E := .o2 .ttake (.uf 21 ql59) (.v 2013)
abbrev ql91 : E := .o2 (.cell 1) (.v 7045) (.o2 .sub (.v 2013) (.il 1))
abbrev ql92 : E := .o2 .cel (.sl []) (.o2 .cel (.sl []) (.il 0))
abbrev ql93 : E := .o2 .cel (.v 7044) (.o2 .cel ql91 ql92)
abbrev ql94 : List Ob := [(.t (.o2 .tcat ql90 ql93) (.uf 25 ql59))]
abbrev ql95 : E := .o2 .ieq (.o1 .size (.o2 (.cell 1) (.v 7045) (.v 2013))) (.il 0)
abbrev ql96 : E := .o2 .ieq (.o2 (.cell 3) (.v 7045) (.v 2013)) (.il 0)
abbrev ql97 : Facts := [(ql83, false)]
abbrev ql98 : Facts := ((ql96, true) : E × Bool) :: ql97
abbrev ql99 : E := .uf 10 (.o2 .cel (.o2 (.cell 0) (.v 7045) (.v 2013)) (.il 0))
abbrev ql100 : E := .uf 11 (.o2 .cel ql84 (.o2 .cel ql99 (.o2 .cel (.il 0) (.il 0))))
abbrev ql101 : E := .o1 .tlen ql99
abbrev ql102 : E := .uf 11 (.o2 .cel ql84 (.o2 .cel ql99 (.o2 .cel ql101 (.il 0))))
abbrev ql103 : E := .o2 .le (.o1 .tlen (.v 7045)) (.o2 .add (.v 2013) (.il 1))
abbrev ql104 : E := .o2 .ieq (.o2 (.cell 3) (.v 7045) (.v 2013)) (.il 8)
abbrev ql105 : Facts := ((ql96, false) : E × Bool) :: ql97
abbrev ql106 : Facts := ((ql104, true) : E × Bool) :: ql105
abbrev ql107 : Facts := (((.v 7041), true) : E × Bool) :: ql106
abbrev ql108 : E := .uf 10 (.o2 .cel (.o2 (.cell 0) (.v 7045) ql88) (.il 0))
abbrev ql109 : E := .o2 (.cell 2) (.v 7045) ql88
abbrev ql110 : E := .o2 (.cell 1) (.v 7045) ql88
abbrev ql111 : E := .o2 .cel (.il 0) ql65
abbrev ql112 : List Ob := [(.t (.o2 .tcat ql90 (.o2 .tcat ql93 ql111)) (.uf 25 ql59))]
abbrev ql113 : E := .o2 (.cell 3) (.v 7045) (.o2 .add (.v 2013) (.il 1))
abbrev ql114 : E := .o2 .ieq ql113 (.il 0)
abbrev ql115 : Facts := ((ql103, false) : E × Bool) :: ql107
abbrev ql116 : E := .o2 .ieq ql113 (.il 8)
abbrev ql117 : Facts := ((ql114, false) : E × Bool) :: ql115
abbrev ql118 : List Ob := ((.e (.o2 .le (.v 2013) ql87)) : Ob) :: ((.e (.o2 .beq (.bl true) ql80)) : Ob) :: ql112
abbrev ql119 : List Ob := ((.e (.o2 .le (.v 2013) ql87)) : Ob) :: ((.e (.o2 .beq (.bl true) ql80)) : Ob) :: ql94
def pmYL1 : List (Facts × List Ob) :=
  [([(ql83, true)],
    (((.e (.o1 .not ql60)) : Ob) :: ((.e (.o1 .not ql61)) : Ob) :: ((.e (.o1 .not ql62)) : Ob) :: ((.e (.o1 .not ql63)) : Ob) :: ((.e (.o2 .ieq ql85 (.o1 .tlen ql86))) : Ob) :: ((.t ql84 ql86) : Ob) :: ((.e (.o2 .le (.v 2013) ql87)) : Ob) :: ((.t ql86 ql89) : Ob) :: ql94)),
   ((((ql95, true) : E × Bool) :: ql98),
    (((.e (.o1 .not ql60)) : Ob) :: ((.e (.o1 .not ql61)) : Ob) :: ((.e (.o1 .not ql62)) : Ob) :: ((.e (.o1 .not ql63)) : Ob) :: ((.e (.o2 .ieq ql85 (.o1 .tlen ql100))) : Ob) :: ((.t ql84 ql100) : Ob) :: ((.e (.o2 .le ql101 (.il 1000))) : Ob) :: ((.e (.o2 .le (.v 2013) ql87)) : Ob) :: ((.t ql102 ql89) : Ob) :: ql94)),
   ((((ql95, false) : E × Bool) :: ql98),
    [(.e (.o2 .lt (.v 2013) (.uf 20 ql59))), (.e (.o2 .ieq ql85 (.o1 .tlen ql100))), (.t ql84 ql100), (.e (.o2 .le ql101 (.il 1000))), (.e (.o2 .ieq (.v 7044) (.o2 (.cell 0) (.uf 21 ql59) (.v 2013)))), (.e (.o2 .seq ql91 (.o2 (.cell 1) (.uf 21 ql59) (.v 2013)))), (.e (.o2 .seq (.sl []) (.o2 (.cell 2) (.uf 21 ql59) (.v 2013)))), (.e (.o2 .seq (.sl []) (.o2 (.cell 3) (.uf 21 ql59) (.v 2013)))), (.t ql102 ql74), (.e (.o2 .ieq (.o1 .tlen ql102) ql75)), (.e (.o2 .seq (.o2 (.cell 1) (.v 7045) (.v 2013)) ql76))]),
   ((((ql103, true) : E × Bool) :: ql107),
    (((.e (.o1 .not ql60)) : Ob) :: ((.e (.o1 .not ql61)) : Ob) :: ((.e ql62) : Ob) :: ((.e (.o2 .le (.v 2013) ql87)) : Ob) :: ((.t (.il 0) ql108) : Ob) :: ((.e (.o2 .seq (.sl []) ql109)) : Ob) :: ((.e (.o2 .seq (.sl []) ql110)) : Ob) :: ql112)),
   ((((ql114, true) : E × Bool) :: ql115),
    (((.e (.o1 .not ql60)) : Ob) :: ((.e (.o1 .not ql61)) : Ob) :: ((.e ql62) : Ob) :: ((.e (.o2 .le (.v 2013) ql87)) : Ob) :: ((.t (.uf 10 (.o2 .cel (.o2 (.cell 0) (.v 7045) (.o2 .add (.v 2013) (.il 1))) (.il 0))) ql108) : Ob) :: ((.e (.o2 .seq (.o2 (.cell 2) (.v 7045) (.o2 .add (.v 2013) (.il 1))) ql109)) : Ob) :: ((.e (.o2 .seq (.o2 (.cell 1) (.v 7045) (.o2 .add (.v 2013) (.il 1))) ql110)) : Ob) :: ql112)),
   ((((ql116, true) : E × Bool) :: ql117),
    (((.e (.o1 .not ql60)) : Ob) :: ((.e ql61) : Ob) :: ql118)),
   ((((ql116, false) : E × Bool) :: ql117),
    (((.e ql60) : Ob) :: ql118)),
   (((((.v 7041), false) : E × Bool) :: ql106),
    (((.e (.o1 .not ql60)) : Ob) :: ((.e ql61) : Ob) :: ql119)),
   ((((ql104, false) : E × Bool) :: ql105),
    (((.e ql60) : Ob) :: ql119))]
abbrev ql120 : E := .o2 .ieq (.o2 (.cell 3) (.v 7045) (.v 2014)) (.il 8)
abbrev ql121 : E := .o2 .lt (.v 2014) (.o1 .tlen (.v 7045))
abbrev ql122 : Facts := [(ql121, true)]
abbrev ql123 : Facts := ((ql120, true) : E × Bool) :: ql122
abbrev ql124 : Facts := (((.v 7041), true) : E × Bool) :: ql123
abbrev ql125 : E := .o2 .or ql60 ql61
abbrev ql126 : List Ob := ((.e ql125) : Ob) :: ((.e (.o2 .ieq (.o2 (.cell 3) (.v 7045) (.v 2014)) (.uf 28 ql59))) : Ob) :: ql81
abbrev ql127 : Facts := (((.v 7041), false) : E × Bool) :: ql123
abbrev ql128 : E := .o2 .seq (.o2 (.cell 1) (.v 7045) (.v 2014)) (.sl [])
abbrev ql129 : E := .o2 .ieq (.o1 .tlen (.o2 (.cell 0) (.v 7045) (.v 2014))) (.il 0)
abbrev ql130 : E := .o2 .ieq (.o2 (.cell 3) (.v 7045) (.v 2014)) (.il 0)
abbrev ql131 : Facts := ((ql120, false) : E × Bool) :: ql122
abbrev ql132 : Facts := ((ql130, true) : E × Bool) :: ql131
abbrev ql133 : Facts := ((ql129, true) : E × Bool) :: ql132
abbrev ql134 : Facts := ((ql128, true) : E × Bool) :: ql133
abbrev ql135 : E := .uf 23 (.o2 .cel (.v 7045) (.o2 .cel (.v 2014) (.il 0)))
abbrev ql136 : E := .o1 .tlen ql135
abbrev ql137 : List Ob := ((.e (.o2 .seq (.o2 (.cell 2) (.v 7045) (.v 2014)) (.uf 27 ql59))) : Ob) :: ql66
abbrev ql138 : Facts := ((ql128, false) : E × Bool) :: ql133
abbrev ql139 : E := .uf 23 (.o2 .cel (.v 7045) (.o2 .cel (.o2 .add (.v 2014) (.il 1)) (.il 0)))
abbrev ql140 : List Ob := [(.e (.o2 .seq (.o2 (.cell 1) (.v 7045) (.v 2014)) (.o2 (.cell 1) (.v 7045) (.o2 .sub (.o2 .add (.v 2014) (.il 1)) (.il 1)))))]
abbrev ql141 : List Ob := ((.e (.o2 .seq (.o2 (.cell 2) (.v 7045) (.v 2014)) (.o2 (.cell 2) (.v 7045) (.il 0)))) : Ob) :: ql140
abbrev ql142 : Facts := ((ql129, false) : E × Bool) :: ql132
abbrev ql143 : Facts := ((ql128, true) : E × Bool) :: ql142
abbrev ql144 : E := .o2 .tcat ql135 (.o2 (.cell 0) (.v 7045) (.v 2014))
abbrev ql145 : Facts := ((ql128, false) : E × Bool) :: ql142
abbrev ql146 : Facts := ((ql130, false) : E × Bool) :: ql131
abbrev ql147 : Facts := [(ql121, false)]
def spYL0 : List (Facts × List Ob) :=
  [(ql124,
    ql126),
   (ql127,
    ql126),
   (ql134,
    (((.e (.o1 .not ql125)) : Ob) :: ((.e ql63) : Ob) :: ((.e (.o2 .le ql136 ql136)) : Ob) :: ((.t ql135 (.uf 26 ql59)) : Ob) :: ql137)),
   (ql138,
    (((.e (.o2 .lt (.v 2014) (.uf 20 ql59))) : Ob) :: ((.e (.o2 .le ql136 ql136)) : Ob) :: ((.e (.o2 .ieq (.v 7044) (.o2 (.cell 0) (.uf 21 ql59) (.il 0)))) : Ob) :: ((.e (.o2 .seq (.sl []) (.o2 (.cell 1) (.uf 21 ql59) (.il 0)))) : Ob) :: ((.e (.o2 .seq (.v 7042) (.o2 (.cell 2) (.uf 21 ql59) (.il 0)))) : Ob) :: ((.e (.o2 .seq (.v 7043) (.o2 (.cell 3) (.uf 21 ql59) (.il 0)))) : Ob) :: ((.t ql135 ql139) : Ob) :: ql141)),
   (ql143,
    (((.e (.o1 .not ql125)) : Ob) :: ((.e ql63) : Ob) :: ((.e (.o2 .le ql136 ql136)) : Ob) :: ((.t ql144 (.uf 26 ql59)) : Ob) :: ql137)),
   (ql145,
    (((.e (.o2 .lt (.v 2014) (.uf 20 ql59))) : Ob) :: ((.e (.o2 .le ql136 ql136)) : Ob) :: ((.e (.o2 .ieq (.v 7044) (.o2 (.cell 0) (.uf 21 ql59) (.il 0)))) : Ob) :: ((.e (.o2 .seq (.sl []) (.o2 (.cell 1) (.uf 21 ql59) (.il 0)))) : Ob) :: ((.e (.o2 .seq (.v 7042) (.o2 (.cell 2) (.uf 21 ql59) (.il 0)))) : Ob) :: ((.e (.o2 .seq (.v 7043) (.o2 (.cell 3) (.uf 21 ql59) (.il 0)))) : Ob) :: ((.t ql144 ql139) : Ob) :: ql141)),
   (ql146,
    ql126),
   (ql147,
    (((.e (.o1 .not ql125)) : Ob) :: ((.e ql63) : Ob) :: ((.e (.o2 .le ql136 ql136)) : Ob) :: ((.t ql135 (.uf 26 ql59)) : Ob) :: ((.e (.o2 .seq (.sl []) (.uf 27 ql59))) : Ob) :: ql66))]
abbrev ql148 : E := .o2 (.cell 3) (.v 7045) (.o2 .add (.v 2014) (.il 1))
abbrev ql149 : E := .o2 .ieq ql148 (.il 0)
abbrev ql150 : E := .o2 .lt (.o2 .add (.v 2014) (.il 1)) (.o1 .tlen (.v 7045))
abbrev ql151 : Facts := ((ql150, true) : E × Bool) :: ql124
abbrev ql152 : E := .o2 .ttake (.uf 21 ql59) (.v 2014)
abbrev ql153 : E := .o2 (.cell 1) (.v 7045) (.o2 .sub (.v 2014) (.il 1))
abbrev ql154 : E := .o2 .cel (.v 7044) (.o2 .cel ql153 ql92)
abbrev ql155 : List Ob := [(.t (.o2 .tcat ql152 (.o2 .tcat ql154 ql111)) (.uf 25 ql59))]
abbrev ql156 : List Ob := [(.t (.o2 .tcat ql152 ql154) (.uf 25 ql59))]
abbrev ql157 : List Ob := ((.e ql125) : Ob) :: ((.e (.o2 .le (.v 2014) ql87)) : Ob) :: ((.e (.o2 .ieq (.o2 (.cell 3) (.v 7045) (.v 2014)) (.uf 28 ql59))) : Ob) :: ((.e (.o2 .beq (.bl true) ql80)) : Ob) :: ql156
abbrev ql158 : List Ob := ((.e (.o2 .seq (.o2 (.cell 2) (.v 7045) (.il 0)) (.uf 27 ql59))) : Ob) :: ql156
abbrev ql159 : List Ob := ((.e (.o1 .not ql125)) : Ob) :: ((.e (.o1 .not ql63)) : Ob) :: ((.e (.o2 .le ql136 ql136)) : Ob) :: ((.e (.o2 .le (.v 2014) ql87)) : Ob) :: ((.t ql135 (.uf 26 ql59)) : Ob) :: ql158
def spYL1 : List (Facts × List Ob) :=
  [((((ql149, true) : E × Bool) :: ql151),
    (((.e (.o1 .not ql125)) : Ob) :: ((.e (.o1 .not ql63)) : Ob) :: ((.e (.o2 .le (.v 2014) ql87)) : Ob) :: ((.t (.o2 (.cell 0) (.v 7045) (.o2 .add (.v 2014) (.il 1))) (.uf 26 ql59)) : Ob) :: ((.e (.o2 .seq (.o2 (.cell 2) (.v 7045) (.o2 .add (.v 2014) (.il 1))) (.uf 27 ql59))) : Ob) :: ql155)),
   ((((ql149, false) : E × Bool) :: ql151),
    (((.e ql125) : Ob) :: ((.e (.o2 .le (.v 2014) ql87)) : Ob) :: ((.e (.o2 .ieq ql148 (.uf 28 ql59))) : Ob) :: ((.e (.o2 .beq (.bl true) ql80)) : Ob) :: ql155)),
   ((((ql150, false) : E × Bool) :: ql124),
    (((.e (.o1 .not ql125)) : Ob) :: ((.e (.o1 .not ql63)) : Ob) :: ((.e (.o2 .le (.v 2014) ql87)) : Ob) :: ((.t (.il 0) (.uf 26 ql59)) : Ob) :: ((.e (.o2 .seq (.sl []) (.uf 27 ql59))) : Ob) :: ql155)),
   (ql127,
    ql157),
   (ql134,
    ql159),
   (ql138,
    (((.e (.o2 .lt (.v 2014) (.uf 20 ql59))) : Ob) :: ((.e (.o2 .le ql136 ql136)) : Ob) :: ((.e (.o2 .ieq (.v 7044) (.o2 (.cell 0) (.uf 21 ql59) (.v 2014)))) : Ob) :: ((.e (.o2 .seq ql153 (.o2 (.cell 1) (.uf 21 ql59) (.v 2014)))) : Ob) :: ((.e (.o2 .seq (.sl []) (.o2 (.cell 2) (.uf 21 ql59) (.v 2014)))) : Ob) :: ((.e (.o2 .seq (.sl []) (.o2 (.cell 3) (.uf 21 ql59) (.v 2014)))) : Ob) :: ((.t ql135 ql139) : Ob) :: ql140)),
   (ql143,
    (((.e (.o1 .not ql125)) : Ob) :: ((.e (.o1 .not ql63)) : Ob) :: ((.e (.o2 .le ql136 ql136)) : Ob) :: ((.e (.o2 .le (.v 2014) ql87)) : Ob) :: ((.t ql144 (.uf 26 ql59)) : Ob) :: ql158)),
   (ql145,
    (((.e (.o2 .lt (.v 2014) (.uf 20 ql59))) : Ob) :: ((.e (.o2 .le ql136 ql136)) : Ob) :: ((.e (.o2 .ieq (.v 7044) (.o2 (.cell 0) (.uf 21 ql59) (.v 2014)))) : Ob) :: ((.e (.o2 .seq ql153 (.o2 (.cell 1) (.uf 21 ql59) (.v 2014)))) : Ob) :: ((.e (.o2 .seq (.sl []) (.o2 (.cell 2) (.uf 21 ql59) (.v 2014)))) : Ob) :: ((.e (.o2 .seq (.sl []) (.o2 (.cell 3) (.uf 21 ql59) (.v 2014)))) : Ob) :: ((.t ql144 ql139) : Ob) :: ql140)),
   (ql146,
    ql157),
   (ql147,
    ql159)]
abbrev ql160 : E := .o2 .lt (.v 2016) (.o1 .tlen (.v 7060))
def csYL0 : List (Facts × List Ob) :=
  [([(ql160, true)],
    []),
   ([(ql160, false)],
    [])]
abbrev ql161 : E := .o2 .seq (.o2 (.cell 0) (.v 7050) (.v 2020)) (.o2 (.cell 0) (.v 7051) (.v 2020))
abbrev ql162 : E := .o2 .lt (.v 2020) (.o1 .tlen (.v 7050))
abbrev ql163 : Facts := [(ql162, true)]
abbrev ql164 : E := .o2 .cel (.v 7050) (.o2 .cel (.v 7051) (.il 0))
abbrev ql165 : List Ob := [(.e (.o2 .lt (.v 2020) (.o1 .tlen (.v 7051))))]
def txYL0 : List (Facts × List Ob) :=
  [((((ql161, true) : E × Bool) :: ql163),
    (((.e (.o2 .lt (.v 2020) (.uf 41 ql164))) : Ob) :: ql165)),
   ((((ql161, false) : E × Bool) :: ql163),
    (((.e (.uf 40 ql164)) : Ob) :: ql165)),
   ([(ql162, false)],
    [(.e (.o1 .not (.uf 40 ql164)))])]
end Go.Proofs.Ytgopjdknmjjheaa.sxPages

namespace Go.Proofs.Ytgopjdknmjjheaa.sxPages
open Go.Sx Go.RowKit
set_option linter.unusedVariables false
set_option linter.unusedSimpArgs false
set_option maxRecDepth 100000

theorem r_fits13 : fits13.r = 2000 := rfl
theorem r_fits27 : fits27.r = 2001 := rfl
theorem r_goodN : goodN.r = 2002 := rfl
theorem r_good : good.r = 2003 := rfl
theorem r_inY : inY.r = 2010 := rfl
theorem r_agY : agY.r = 2011 := rfl
theorem r_gaY : gaY.r = 2012 := rfl
theorem r_gbY : gbY.r = 2012 := rfl
theorem r_pmY : pmY.r = 2013 := rfl
theorem r_spY : spY.r = 2014 := rfl
theorem r_csY : csY.r = 2016 := rfl
theorem r_txY : txY.r = 2020 := rfl
theorem cast_lt {i n : Nat} : ((i : Int) < (n : Int)) = (i < n) := by simp
theorem cast_le {i n : Nat} : ((i : Int) ≤ (n : Int)) = (i ≤ n) := by simp
theorem toNat_succ (i : Nat) : ((i : Int) + 1).toNat = i + 1 := by omega
theorem toNat_one : (1 : Int).toNat = 1 := rfl
theorem nosL : (ByteArray.mk #[]).toList = [] := by decide +kernel
theorem hd_1 {a : List Dv} : [a].head?.getD [] = a := id rfl
theorem hd_0 : ([] : List (List Dv)).head?.getD [] = [] := id rfl
section
variable {e : Env} {a b : E}
theorem d_sub : (E.o2 .sub a b).den e = .i ((a.den e).I - (b.den e).I) := id rfl
theorem d_size : (E.o1 .size a).den e = .i ((a.den e).S.size : Int) := id rfl
theorem d_cat : (E.o2 .tcat a b).den e = .t ((a.den e).T ++ (b.den e).T) := id rfl
end
section
variable {o : Env} {i : Nat} {u : Nat → Value}
theorem fits13_all (hu : o.uf = UF) (hi : i ≤ stop (B1 (o.v 7000)) (o.v 7000).T.length) (hn : ((o.v 7000).T.length : Int) ≤ 9223372036854775807) : AllL (fits13.env o u i) fits13L0 := by
  have h1 := @stop_yes (B1 (o.v 7000)) (o.v 7000).T.length i hi
  have h2 := @stop_no (B1 (o.v 7000)) (o.v 7000).T.length i hi
  have h3 := @stop_end (B1 (o.v 7000)) (o.v 7000).T.length i hi
  simp only [B1] at h1 h2
  simp only [fits13L0, allL_cons, allL_nil, and_true]
  and_intros
  all_goals intro h
  all_goals simp only [hold_cons_iff, hold_nil_iff, allT_cons, allT_nil, ob_e, ob_t, dB_lt, dB_le, dB_ieq, dB_seq, dB_not, dB_beq, dB_bl, dB_and, dB_or, dI_il, dI_add, dI_sub, dI_size, dI_tlen, dS_sl, d_v, d_uf, d_cel, d_cell, d_il, d_bl, d_sl, d_add, d_sub, d_take, d_size, d_tlen, dT_take, dT_cat, d_cat, ar_0, ar_1, ar_2, ar_3, ar_4, ar_5, LoopY.env, if_true, if_false, Nat.reduceEqDiff, I_i, B_b, S_s, T_t, T_i, T_cel, hd_1, hd_0, Int.toNat_natCast, Int.toNat_zero, toNat_succ, toNat_one, most, decide_eq_true_eq, decide_eq_false_iff_not, and_true, true_and, Bool.not_eq_true', Bool.or_eq_true, Bool.or_eq_false_iff, Bool.not_eq_false', Bool.and_eq_true, Bool.and_eq_false_iff, cast_lt, cast_le, hu, nosL, List.nil_append, List.append_nil, r_fits13, UF_1, UF_2, anyB] at h h1 h2 h3 ⊢
  all_goals grind

theorem fits27_all (hu : o.uf = UF) (hi : i ≤ stop (B3 (o.v 7001)) (o.v 7001).T.length) (hn : ((o.v 7001).T.length : Int) ≤ 9223372036854775807) : AllL (fits27.env o u i) fits27L0 := by
  have h1 := @stop_yes (B3 (o.v 7001)) (o.v 7001).T.length i hi
  have h2 := @stop_no (B3 (o.v 7001)) (o.v 7001).T.length i hi
  have h3 := @stop_end (B3 (o.v 7001)) (o.v 7001).T.length i hi
  simp only [B3, bad3] at h1 h2
  simp only [fits27L0, allL_cons, allL_nil, and_true]
  and_intros
  all_goals intro h
  all_goals simp only [hold_cons_iff, hold_nil_iff, allT_cons, allT_nil, ob_e, ob_t, dB_lt, dB_le, dB_ieq, dB_seq, dB_not, dB_beq, dB_bl, dB_and, dB_or, dI_il, dI_add, dI_sub, dI_size, dI_tlen, dS_sl, d_v, d_uf, d_cel, d_cell, d_il, d_bl, d_sl, d_add, d_sub, d_take, d_size, d_tlen, dT_take, dT_cat, d_cat, ar_0, ar_1, ar_2, ar_3, ar_4, ar_5, LoopY.env, if_true, if_false, Nat.reduceEqDiff, I_i, B_b, S_s, T_t, T_i, T_cel, hd_1, hd_0, Int.toNat_natCast, Int.toNat_zero, toNat_succ, toNat_one, most, decide_eq_true_eq, decide_eq_false_iff_not, and_true, true_and, Bool.not_eq_true', Bool.or_eq_true, Bool.or_eq_false_iff, Bool.not_eq_false', Bool.and_eq_true, Bool.and_eq_false_iff, cast_lt, cast_le, hu, nosL, List.nil_append, List.append_nil, r_fits27, UF_1, UF_2, UF_3, UF_4, anyB] at h h1 h2 h3 ⊢
  all_goals grind

theorem goodN_all (hu : o.uf = UF) (hi : i ≤ stop (B5 (o.v 7002)) (o.v 7002).T.length) (hn : ((o.v 7002).T.length : Int) ≤ 9223372036854775807) : AllL (goodN.env o u i) goodNL0 := by
  have h1 := @stop_yes (B5 (o.v 7002)) (o.v 7002).T.length i hi
  have h2 := @stop_no (B5 (o.v 7002)) (o.v 7002).T.length i hi
  have h3 := @stop_end (B5 (o.v 7002)) (o.v 7002).T.length i hi
  simp only [B5] at h1 h2
  simp only [goodNL0, allL_cons, allL_nil, and_true]
  and_intros
  all_goals intro h
  all_goals simp only [hold_cons_iff, hold_nil_iff, allT_cons, allT_nil, ob_e, ob_t, dB_lt, dB_le, dB_ieq, dB_seq, dB_not, dB_beq, dB_bl, dB_and, dB_or, dI_il, dI_add, dI_sub, dI_size, dI_tlen, dS_sl, d_v, d_uf, d_cel, d_cell, d_il, d_bl, d_sl, d_add, d_sub, d_take, d_size, d_tlen, dT_take, dT_cat, d_cat, ar_0, ar_1, ar_2, ar_3, ar_4, ar_5, LoopY.env, if_true, if_false, Nat.reduceEqDiff, I_i, B_b, S_s, T_t, T_i, T_cel, hd_1, hd_0, Int.toNat_natCast, Int.toNat_zero, toNat_succ, toNat_one, most, decide_eq_true_eq, decide_eq_false_iff_not, and_true, true_and, Bool.not_eq_true', Bool.or_eq_true, Bool.or_eq_false_iff, Bool.not_eq_false', Bool.and_eq_true, Bool.and_eq_false_iff, cast_lt, cast_le, hu, nosL, List.nil_append, List.append_nil, r_goodN, UF_5, UF_6, anyB] at h h1 h2 h3 ⊢
  all_goals grind

theorem good_all (hu : o.uf = UF) (hi : i ≤ stop (B7 (o.v 7003)) (o.v 7003).T.length) (hn : ((o.v 7003).T.length : Int) ≤ 9223372036854775807) : AllL (good.env o u i) goodL0 := by
  have h1 := @stop_yes (B7 (o.v 7003)) (o.v 7003).T.length i hi
  have h2 := @stop_no (B7 (o.v 7003)) (o.v 7003).T.length i hi
  have h3 := @stop_end (B7 (o.v 7003)) (o.v 7003).T.length i hi
  simp only [B7, okPg] at h1 h2
  simp only [goodL0, allL_cons, allL_nil, and_true]
  and_intros
  all_goals intro h
  all_goals simp only [hold_cons_iff, hold_nil_iff, allT_cons, allT_nil, ob_e, ob_t, dB_lt, dB_le, dB_ieq, dB_seq, dB_not, dB_beq, dB_bl, dB_and, dB_or, dI_il, dI_add, dI_sub, dI_size, dI_tlen, dS_sl, d_v, d_uf, d_cel, d_cell, d_il, d_bl, d_sl, d_add, d_sub, d_take, d_size, d_tlen, dT_take, dT_cat, d_cat, ar_0, ar_1, ar_2, ar_3, ar_4, ar_5, LoopY.env, if_true, if_false, Nat.reduceEqDiff, I_i, B_b, S_s, T_t, T_i, T_cel, hd_1, hd_0, Int.toNat_natCast, Int.toNat_zero, toNat_succ, toNat_one, most, decide_eq_true_eq, decide_eq_false_iff_not, and_true, true_and, Bool.not_eq_true', Bool.or_eq_true, Bool.or_eq_false_iff, Bool.not_eq_false', Bool.and_eq_true, Bool.and_eq_false_iff, cast_lt, cast_le, hu, nosL, List.nil_append, List.append_nil, r_good, UF_5, UF_6, UF_7, UF_8, anyB] at h h1 h2 h3 ⊢
  all_goals grind

theorem txY_all (hu : o.uf = UF) (hi : i ≤ stop (Btx (o.v 7050) (o.v 7051)) (o.v 7050).T.length) (hn : ((o.v 7050).T.length : Int) ≤ 9223372036854775807)(hm : (o.v 7050).T.length = (o.v 7051).T.length) : AllL (txY.env o u i) txYL0 := by
  have h1 := @stop_yes (Btx (o.v 7050) (o.v 7051)) (o.v 7050).T.length i hi
  have h2 := @stop_no (Btx (o.v 7050) (o.v 7051)) (o.v 7050).T.length i hi
  have h3 := @stop_end (Btx (o.v 7050) (o.v 7051)) (o.v 7050).T.length i hi
  simp only [Btx] at h1 h2
  simp only [txYL0, allL_cons, allL_nil, and_true]
  and_intros
  all_goals intro h
  all_goals simp only [hold_cons_iff, hold_nil_iff, allT_cons, allT_nil, ob_e, ob_t, dB_lt, dB_le, dB_ieq, dB_seq, dB_not, dB_beq, dB_bl, dB_and, dB_or, dI_il, dI_add, dI_sub, dI_size, dI_tlen, dS_sl, d_v, d_uf, d_cel, d_cell, d_il, d_bl, d_sl, d_add, d_sub, d_take, d_size, d_tlen, dT_take, dT_cat, d_cat, ar_0, ar_1, ar_2, ar_3, ar_4, ar_5, LoopY.env, if_true, if_false, Nat.reduceEqDiff, I_i, B_b, S_s, T_t, T_i, T_cel, hd_1, hd_0, Int.toNat_natCast, Int.toNat_zero, toNat_succ, toNat_one, most, decide_eq_true_eq, decide_eq_false_iff_not, and_true, true_and, Bool.not_eq_true', Bool.or_eq_true, Bool.or_eq_false_iff, Bool.not_eq_false', Bool.and_eq_true, Bool.and_eq_false_iff, cast_lt, cast_le, hu, nosL, List.nil_append, List.append_nil, r_txY, UF_40, UF_41, anyB] at h h1 h2 h3 ⊢
  all_goals grind

theorem csY_all (hi : i ≤ (o.v 7060).T.length) : AllL (csY.env o u i) csYL0 := by
  simp only [csYL0, allL_cons, allL_nil, and_true]
  and_intros
  all_goals intro h
  all_goals simp only [hold_cons_iff, hold_nil_iff, allT_cons, allT_nil, ob_e, dB_lt, dI_tlen, dB_bl, d_v, LoopY.env, if_true, if_false, Nat.reduceEqDiff, r_csY, I_i, decide_eq_true_eq, and_true] at h ⊢
  all_goals trivial
theorem row_itms {d : Dv} {i : Nat} (h : i < d.T.length) : row (.t (itms d)) i = [.t [objR (cc (row d i) 0)]] := by
  show ((itms d)[i]?).getD [] = _
  unfold itms row
  rw [List.getElem?_map, List.getElem?_eq_getElem h]; rfl
theorem cc_0 {a : Dv} {l : List Dv} : cc (a :: l) 0 = a := id rfl
theorem cc_s {a : Dv} {l : List Dv} {k : Nat} : cc (a :: l) (k + 1) = cc l k := id rfl
theorem row_1 {r : List Dv} : row (.t [r]) 0 = r := id rfl
theorem take_all {d : Dv} {i : Nat} (h : d.T.length ≤ i) : d.T.take i = d.T := List.take_of_length_le h
theorem inY_all0 (hu : o.uf = UF) (h0 : 0 ≤ (o.v 7011).I) (hn : (o.v 7011).I < ((o.v 7010).T.length : Int)) (hl : ((nmsAt (o.v 7010) (o.v 7011).I.toNat).T.length : Int) ≤ 1000) : AllL (inY.env o u 0) inYL0 := by
  have hr := @row_itms (nmsAt (o.v 7010) (o.v 7011).I.toNat) 0
  simp only [nmsAt] at hr hl
  simp only [inYL0, allL_cons, allL_nil, and_true]
  and_intros
  all_goals intro h
  all_goals simp only [hold_cons_iff, hold_nil_iff, allT_cons, allT_nil, ob_e, ob_t, dB_lt, dB_le, dB_ieq, dB_seq, dB_not, dB_beq, dB_bl, dB_and, dB_or, dI_il, dI_add, dI_sub, dI_size, dI_tlen, dS_sl, d_v, d_uf, d_cel, d_cell, d_il, d_bl, d_sl, d_add, d_sub, d_take, d_size, d_tlen, dT_take, dT_cat, d_cat, ar_0, ar_1, ar_2, ar_3, ar_4, ar_5, LoopY.env, if_true, if_false, Nat.reduceEqDiff, I_i, B_b, S_s, T_t, T_i, T_cel, hd_1, hd_0, Int.toNat_natCast, Int.toNat_zero, toNat_succ, toNat_one, most, decide_eq_true_eq, decide_eq_false_iff_not, and_true, true_and, Bool.not_eq_true', Bool.or_eq_true, Bool.or_eq_false_iff, Bool.not_eq_false', Bool.and_eq_true, Bool.and_eq_false_iff, cast_lt, cast_le, hu, nosL, List.nil_append, List.append_nil, r_inY, UF_10] at h hr ⊢
  all_goals first
    | (rw [hr (by omega)]; simp only [objR, nos, cc_0, T_t, hd_1, hd_0])
    | (have : itms (cc (row (o.v 7010) (o.v 7011).I.toNat) 0) = [] := List.eq_nil_of_length_eq_zero (by rw [itms_len]; omega); rw [this])
    | skip
theorem inY_all1 (hu : o.uf = UF) (h0 : 0 ≤ (o.v 7011).I) (hn : (o.v 7011).I < ((o.v 7010).T.length : Int)) (hl : ((nmsAt (o.v 7010) (o.v 7011).I.toNat).T.length : Int) ≤ 1000) (hi : i ≤ (nmsAt (o.v 7010) (o.v 7011).I.toNat).T.length) : AllL (inY.env o u i) inYL1 := by
  have hr := @row_itms (nmsAt (o.v 7010) (o.v 7011).I.toNat) i
  have hlen := @itms_len (nmsAt (o.v 7010) (o.v 7011).I.toNat)
  simp only [nmsAt] at hr hl hi hlen
  simp only [inYL1, allL_cons, allL_nil, and_true]
  and_intros
  all_goals intro h
  all_goals simp only [hold_cons_iff, hold_nil_iff, allT_cons, allT_nil, ob_e, ob_t, dB_lt, dB_le, dB_ieq, dB_seq, dB_not, dB_beq, dB_bl, dB_and, dB_or, dI_il, dI_add, dI_sub, dI_size, dI_tlen, dS_sl, d_v, d_uf, d_cel, d_cell, d_il, d_bl, d_sl, d_add, d_sub, d_take, d_size, d_tlen, dT_take, dT_cat, d_cat, ar_0, ar_1, ar_2, ar_3, ar_4, ar_5, LoopY.env, if_true, if_false, Nat.reduceEqDiff, I_i, B_b, S_s, T_t, T_i, T_cel, hd_1, hd_0, Int.toNat_natCast, Int.toNat_zero, toNat_succ, toNat_one, most, decide_eq_true_eq, decide_eq_false_iff_not, and_true, true_and, Bool.not_eq_true', Bool.or_eq_true, Bool.or_eq_false_iff, Bool.not_eq_false', Bool.and_eq_true, Bool.and_eq_false_iff, cast_lt, cast_le, hu, nosL, List.nil_append, List.append_nil, r_inY, UF_10] at h hr ⊢
  all_goals first
    | (rw [hr (by omega)]; simp only [objR, nos, cc_0, T_t, hd_1, hd_0])
    | (refine ⟨by omega, List.take_of_length_le (by omega)⟩)
    | skip
theorem take_row {d : Dv} {i : Nat} (hi : i < d.T.length) : d.T.take (i + 1) = d.T.take i ++ [row d i] := by
  rw [List.take_add_one, List.getElem?_eq_getElem hi]
  unfold row
  rw [List.getElem?_eq_getElem hi]; rfl
theorem agY_all (hu : o.uf = UF) (hl : ((o.v 7021).T.length : Int) ≤ 1000) (hb : ((o.v 7020).T.length : Int) ≤ 900000) (hi : i ≤ (o.v 7021).T.length) : AllL (agY.env o u i) agYL0 := by
  have hs := @take_row (o.v 7021) i
  simp only [agYL0, allL_cons, allL_nil, and_true]
  and_intros
  all_goals intro h
  all_goals simp only [hold_cons_iff, hold_nil_iff, allT_cons, allT_nil, ob_e, ob_t, dB_lt, dB_le, dB_ieq, dB_seq, dB_not, dB_beq, dB_bl, dB_and, dB_or, dI_il, dI_add, dI_sub, dI_size, dI_tlen, dS_sl, d_v, d_uf, d_cel, d_cell, d_il, d_bl, d_sl, d_add, d_sub, d_take, d_size, d_tlen, dT_take, dT_cat, d_cat, ar_0, ar_1, ar_2, ar_3, ar_4, ar_5, LoopY.env, if_true, if_false, Nat.reduceEqDiff, I_i, B_b, S_s, T_t, T_i, T_cel, hd_1, hd_0, Int.toNat_natCast, Int.toNat_zero, toNat_succ, toNat_one, most, decide_eq_true_eq, decide_eq_false_iff_not, and_true, true_and, Bool.not_eq_true', Bool.or_eq_true, Bool.or_eq_false_iff, Bool.not_eq_false', Bool.and_eq_true, Bool.and_eq_false_iff, cast_lt, cast_le, hu, nosL, List.nil_append, List.append_nil, r_agY, UF_11, List.length_append, List.length_map, List.length_take] at h ⊢
  all_goals first
    | (rw [hs h, List.map_append]; exact ⟨by simp only [List.append_assoc, List.map_cons, List.map_nil], by omega⟩)
    | (have e : i = (o.v 7021).T.length := by omega
       subst e
       simp)
    | skip
theorem row_nm {d : Dv} {i : Nat} (h : i < d.T.length) : cc (row (.t (d.T.map nameOf)) i) 0 = cc (row (cc (row d i) 0) 0) 1 := by
  show cc (((d.T.map nameOf)[i]?).getD []) 0 = _
  rw [List.getElem?_map, List.getElem?_eq_getElem h]
  unfold row
  rw [List.getElem?_eq_getElem h]; rfl
theorem gaY_all0 (hu : o.uf = UF) : AllL (gaY.env o u 0) gaYL0 := by
  have hr := @row_nm (o.v 7030) 0
  simp only [gaYL0, allL_cons, allL_nil, and_true]
  and_intros
  all_goals intro h
  all_goals simp only [hold_cons_iff, hold_nil_iff, allT_cons, allT_nil, ob_e, ob_t, dB_lt, dB_le, dB_ieq, dB_seq, dB_not, dB_beq, dB_bl, dB_and, dB_or, dI_il, dI_add, dI_sub, dI_size, dI_tlen, dS_sl, d_v, d_uf, d_cel, d_cell, d_il, d_bl, d_sl, d_add, d_sub, d_take, d_size, d_tlen, dT_take, dT_cat, d_cat, ar_0, ar_1, ar_2, ar_3, ar_4, ar_5, LoopY.env, if_true, if_false, Nat.reduceEqDiff, I_i, B_b, S_s, T_t, T_i, T_cel, hd_1, hd_0, Int.toNat_natCast, Int.toNat_zero, toNat_succ, toNat_one, most, decide_eq_true_eq, decide_eq_false_iff_not, and_true, true_and, Bool.not_eq_true', Bool.or_eq_true, Bool.or_eq_false_iff, Bool.not_eq_false', Bool.and_eq_true, Bool.and_eq_false_iff, cast_lt, cast_le, hu, nosL, List.nil_append, List.append_nil, r_gaY, UF_12] at h ⊢
  all_goals first
    | (rw [hr h]; simp)
    | (have e : (o.v 7030).T = [] := List.eq_nil_of_length_eq_zero (by omega)
       rw [e]; rfl)
    | skip
theorem gaY_all1 (hu : o.uf = UF) (hi : i ≤ (o.v 7030).T.length) : AllL (gaY.env o u i) gaYL1 := by
  have hr := @row_nm (o.v 7030) i
  simp only [gaYL1, allL_cons, allL_nil, and_true]
  and_intros
  all_goals intro h
  all_goals simp only [hold_cons_iff, hold_nil_iff, allT_cons, allT_nil, ob_e, ob_t, dB_lt, dB_le, dB_ieq, dB_seq, dB_not, dB_beq, dB_bl, dB_and, dB_or, dI_il, dI_add, dI_sub, dI_size, dI_tlen, dS_sl, d_v, d_uf, d_cel, d_cell, d_il, d_bl, d_sl, d_add, d_sub, d_take, d_size, d_tlen, dT_take, dT_cat, d_cat, ar_0, ar_1, ar_2, ar_3, ar_4, ar_5, LoopY.env, if_true, if_false, Nat.reduceEqDiff, I_i, B_b, S_s, T_t, T_i, T_cel, hd_1, hd_0, Int.toNat_natCast, Int.toNat_zero, toNat_succ, toNat_one, most, decide_eq_true_eq, decide_eq_false_iff_not, and_true, true_and, Bool.not_eq_true', Bool.or_eq_true, Bool.or_eq_false_iff, Bool.not_eq_false', Bool.and_eq_true, Bool.and_eq_false_iff, cast_lt, cast_le, hu, nosL, List.nil_append, List.append_nil, r_gaY, UF_12, List.length_map] at h ⊢
  all_goals first
    | (rw [hr h]; simp)
    | (refine ⟨by omega, List.take_of_length_le (by rw [List.length_map]; omega)⟩)
    | skip
theorem gbY_all0 (hu : o.uf = UF) : AllL (gbY.env o u 0) gbYL0 := by
  have hr := @row_nm (o.v 7030) 0
  simp only [gbYL0, allL_cons, allL_nil, and_true]
  and_intros
  all_goals intro h
  all_goals simp only [hold_cons_iff, hold_nil_iff, allT_cons, allT_nil, ob_e, ob_t, dB_lt, dB_le, dB_ieq, dB_seq, dB_not, dB_beq, dB_bl, dB_and, dB_or, dI_il, dI_add, dI_sub, dI_size, dI_tlen, dS_sl, d_v, d_uf, d_cel, d_cell, d_il, d_bl, d_sl, d_add, d_sub, d_take, d_size, d_tlen, dT_take, dT_cat, d_cat, ar_0, ar_1, ar_2, ar_3, ar_4, ar_5, LoopY.env, if_true, if_false, Nat.reduceEqDiff, I_i, B_b, S_s, T_t, T_i, T_cel, hd_1, hd_0, Int.toNat_natCast, Int.toNat_zero, toNat_succ, toNat_one, most, decide_eq_true_eq, decide_eq_false_iff_not, and_true, true_and, Bool.not_eq_true', Bool.or_eq_true, Bool.or_eq_false_iff, Bool.not_eq_false', Bool.and_eq_true, Bool.and_eq_false_iff, cast_lt, cast_le, hu, nosL, List.nil_append, List.append_nil, r_gbY, UF_12] at h ⊢
  all_goals first
    | (rw [hr h]; simp)
    | (have e : (o.v 7030).T = [] := List.eq_nil_of_length_eq_zero (by omega)
       rw [e]; rfl)
    | skip
theorem gbY_all1 (hu : o.uf = UF) (hi : i ≤ (o.v 7030).T.length) : AllL (gbY.env o u i) gbYL1 := by
  have hr := @row_nm (o.v 7030) i
  simp only [gbYL1, allL_cons, allL_nil, and_true]
  and_intros
  all_goals intro h
  all_goals simp only [hold_cons_iff, hold_nil_iff, allT_cons, allT_nil, ob_e, ob_t, dB_lt, dB_le, dB_ieq, dB_seq, dB_not, dB_beq, dB_bl, dB_and, dB_or, dI_il, dI_add, dI_sub, dI_size, dI_tlen, dS_sl, d_v, d_uf, d_cel, d_cell, d_il, d_bl, d_sl, d_add, d_sub, d_take, d_size, d_tlen, dT_take, dT_cat, d_cat, ar_0, ar_1, ar_2, ar_3, ar_4, ar_5, LoopY.env, if_true, if_false, Nat.reduceEqDiff, I_i, B_b, S_s, T_t, T_i, T_cel, hd_1, hd_0, Int.toNat_natCast, Int.toNat_zero, toNat_succ, toNat_one, most, decide_eq_true_eq, decide_eq_false_iff_not, and_true, true_and, Bool.not_eq_true', Bool.or_eq_true, Bool.or_eq_false_iff, Bool.not_eq_false', Bool.and_eq_true, Bool.and_eq_false_iff, cast_lt, cast_le, hu, nosL, List.nil_append, List.append_nil, r_gbY, UF_12, List.length_map] at h ⊢
  all_goals first
    | (rw [hr h]; simp)
    | (refine ⟨by omega, List.take_of_length_le (by rw [List.length_map]; omega)⟩)
    | skip
end
section
variable {o : Env} {i : Nat} {u : Nat → Value}
theorem callAt_0 {lim rv mt pg : Dv} : callAt lim rv mt pg 0 = [lim, .s nos, rv, mt] := rfl
theorem callAt_s {lim rv mt pg : Dv} {j : Nat} (h : 0 < j) : callAt lim rv mt pg j = [lim, cc (row pg (j - 1)) 1, .s nos, .s nos] := by unfold callAt; rw [if_neg (by omega)]
theorem calls_0 {lim rv mt pg : Dv} (h : endN pg = 0) : callsN lim rv mt pg = [[lim, .s nos, rv, mt]] := by unfold callsN; rw [h]; rfl
theorem nosM : nos.toList = [] := nosL
theorem prevE {i : Nat} : ((i : Int) - 1).toNat = i - 1 := by omega
theorem backE {i : Nat} : ((i : Int) + 1 - 1).toNat = i := by omega
theorem zeroE : ((0 : Nat) : Int) = 0 := rfl
theorem cc_nil {k : Nat} : cc [] k = .i 0 := by cases k <;> rfl
theorem S_i {z : Int} : (Dv.i z).S = ⟨#[]⟩ := id rfl
theorem itms_i {z : Int} : itms (.i z) = [] := id rfl
theorem pmY_all0 (hu : o.uf = UF) (h7 : anyB (B7 (o.v 7045)) (o.v 7045).T.length = false) : AllL (pmY.env o u 0) pmYL0 := by
  have hg0 := good_pg h7 0
  have e0 : 0 ≤ endN (o.v 7045) := Nat.zero_le _
  have hE := @end_is (o.v 7045) 0 e0
  have hG := @end_gt (o.v 7045) 0 e0
  have hO := @row_out (o.v 7045) 0
  have hC := @calls_0 (o.v 7044) (o.v 7042) (o.v 7043) (o.v 7045)
  have hR := @calls_row (o.v 7044) (o.v 7042) (o.v 7043) (o.v 7045) 0 e0
  have hl := @itms_len (nmsAt (o.v 7045) 0)
  have hs := @itmsTo_succ (o.v 7045) 0
  simp only [erAt, frAt, nmsAt, itmsTo_0, List.nil_append] at hg0 hE hG hl hs
  simp only [pmYL0, allL_cons, allL_nil, and_true]
  and_intros
  all_goals intro h
  all_goals simp only [hold_cons_iff, hold_nil_iff, allT_cons, allT_nil, ob_e, ob_t, dB_lt, dB_le, dB_ieq, dB_seq, dB_not, dB_beq, dB_bl, dB_and, dB_or, dI_il, dI_add, dI_sub, dI_size, dI_tlen, dS_sl, d_v, d_uf, d_cel, d_cell, d_il, d_bl, d_sl, d_add, d_sub, d_take, d_size, d_tlen, dT_take, dT_cat, d_cat, ar_0, ar_1, ar_2, ar_3, ar_4, ar_5, LoopY.env, if_true, if_false, Nat.reduceEqDiff, I_i, B_b, S_s, T_t, T_i, T_cel, hd_1, hd_0, Int.toNat_natCast, Int.toNat_zero, toNat_succ, toNat_one, most, decide_eq_true_eq, decide_eq_false_iff_not, and_true, true_and, Bool.not_eq_true', Bool.or_eq_true, Bool.or_eq_false_iff, Bool.not_eq_false', Bool.and_eq_true, Bool.and_eq_false_iff, cast_lt, cast_le, hu, nosL, List.nil_append, List.append_nil, r_pmY, UF_10, UF_11, UF_20, UF_21, UF_22, UF_24, UF_25, UF_7, size0, itms_id, List.take_zero, List.map_nil, List.length_nil, List.take_length, backE, zeroE, Int.zero_add] at h ⊢
  all_goals first
    | (have hN := hE (by grind)
       have hC := hC hN
       simp only [kindN, again, callsF, erAt, hN, hC, nos, Nat.lt_irrefl, decide_false, Bool.and_false, Bool.false_eq_true, if_false, if_true, List.append_nil, zeroE] at h ⊢
       first
         | grind
         | (have hO := hO (by omega)
            simp only [hO, cc_nil, I_i, S_i, T_i, itms_i, nosL, if_true, beq_self_eq_true, and_true] at h hg0 ⊢
            grind))
    | (have hN := hG (by omega) (by grind) (by grind)
       simp only [hR, callAt_0, nos, cc_0, cc_s, S_s, nosL] at h ⊢
       grind)
    | skip
theorem pmY_all1 (hu : o.uf = UF) (h7 : anyB (B7 (o.v 7045)) (o.v 7045).T.length = false) (hi : i ≤ endN (o.v 7045)) (h0 : 0 < i) : AllL (pmY.env o u i) pmYL1 := by
  have hg0 := good_pg h7 i
  have hg1 := good_pg h7 (i + 1)
  have hE := @end_is (o.v 7045) i hi
  have hG := @end_gt (o.v 7045) i hi
  have hO := @row_out (o.v 7045) i
  have hO1 := @row_out (o.v 7045) (i + 1)
  have hC := @calls_take (o.v 7044) (o.v 7042) (o.v 7043) (o.v 7045) i
  have hR := @calls_row (o.v 7044) (o.v 7042) (o.v 7043) (o.v 7045) i hi
  have hcl := @calls_len (o.v 7044) (o.v 7042) (o.v 7043) (o.v 7045)
  have hl := @itms_len (nmsAt (o.v 7045) i)
  have hs := @itmsTo_succ (o.v 7045) i
  have hb := itmsTo_len h7 i
  have hle := @end_le (o.v 7045)
  simp only [erAt, frAt, nmsAt] at hg0 hg1 hE hG hl hs
  rw [callAt_s h0] at hR hC
  simp only [pmYL1, allL_cons, allL_nil, and_true]
  and_intros
  all_goals intro h
  all_goals simp only [hold_cons_iff, hold_nil_iff, allT_cons, allT_nil, ob_e, ob_t, dB_lt, dB_le, dB_ieq, dB_seq, dB_not, dB_beq, dB_bl, dB_and, dB_or, dI_il, dI_add, dI_sub, dI_size, dI_tlen, dS_sl, d_v, d_uf, d_cel, d_cell, d_il, d_bl, d_sl, d_add, d_sub, d_take, d_size, d_tlen, dT_take, dT_cat, d_cat, ar_0, ar_1, ar_2, ar_3, ar_4, ar_5, LoopY.env, if_true, if_false, Nat.reduceEqDiff, I_i, B_b, S_s, T_t, T_i, T_cel, hd_1, hd_0, Int.toNat_natCast, Int.toNat_zero, toNat_succ, toNat_one, most, decide_eq_true_eq, decide_eq_false_iff_not, and_true, true_and, Bool.not_eq_true', Bool.or_eq_true, Bool.or_eq_false_iff, Bool.not_eq_false', Bool.and_eq_true, Bool.and_eq_false_iff, cast_lt, cast_le, hu, nosL, List.nil_append, List.append_nil, r_pmY, UF_10, UF_11, UF_20, UF_21, UF_22, UF_24, UF_25, UF_7, size0, itms_id, List.take_zero, List.map_nil, List.length_nil, List.take_length, List.length_append, backE, prevE, hcl] at h ⊢
  all_goals first
    | (have hN := hE (by grind)
       have hC := hC hN
       simp only [kindN, again, callsF, erAt, hN, nos] at h hC hcl ⊢
       first
         | grind
         | (have hO := hO (by omega)
            simp only [hO, cc_nil, I_i, S_i, T_i, itms_i, nosL, if_true, beq_self_eq_true, and_true] at h hg0 hs ⊢
            grind)
         | (have hO1 := hO1 (by omega)
            simp only [hO1, cc_nil, I_i, S_i, T_i, itms_i, nosL, if_true, beq_self_eq_true, and_true] at h hg1 ⊢
            grind)
         | skip)
    | (have hN := hG (by omega) (by grind) (by grind)
       simp only [hR, nos, cc_0, cc_s, S_s, nosL] at h ⊢
       first | grind | skip)
    | skip
theorem lenZ {l : List (List Dv)} : ((l.length : Int) = 0) = (l = []) := by
  apply propext
  constructor
  · intro h; exact List.eq_nil_of_length_eq_zero (by omega)
  · intro h; rw [h]; rfl
theorem T_s {x : ByteArray} : (Dv.s x).T = [] := id rfl
theorem spY_all0 (hu : o.uf = UF) (h7 : anyB (B7 (o.v 7045)) (o.v 7045).T.length = false) : AllL (spY.env o u 0) spYL0 := by
  have hg0 := good_pg h7 0
  have e0 : 0 ≤ endN (o.v 7045) := Nat.zero_le _
  have hE := @end_is (o.v 7045) 0 e0
  have hG := @end_gt (o.v 7045) 0 e0
  have hO := @row_out (o.v 7045) 0
  have hC := @calls_0 (o.v 7044) (o.v 7042) (o.v 7043) (o.v 7045)
  have hR := @calls_row (o.v 7044) (o.v 7042) (o.v 7043) (o.v 7045) 0 e0
  have hs := @nmsTo_succ (o.v 7045) 0
  simp only [erAt, frAt, nmsAt, nmsTo_0, List.nil_append, Nat.zero_add] at hg0 hE hG hs
  simp only [spYL0, allL_cons, allL_nil, and_true]
  and_intros
  all_goals intro h
  all_goals simp only [hold_cons_iff, hold_nil_iff, allT_cons, allT_nil, ob_e, ob_t, dB_lt, dB_le, dB_ieq, dB_seq, dB_not, dB_beq, dB_bl, dB_and, dB_or, dI_il, dI_add, dI_sub, dI_size, dI_tlen, dS_sl, d_v, d_uf, d_cel, d_cell, d_il, d_bl, d_sl, d_add, d_sub, d_take, d_size, d_tlen, dT_take, dT_cat, d_cat, ar_0, ar_1, ar_2, ar_3, ar_4, ar_5, LoopY.env, if_true, if_false, Nat.reduceEqDiff, I_i, B_b, S_s, T_t, T_i, T_cel, hd_1, hd_0, Int.toNat_natCast, Int.toNat_zero, toNat_succ, toNat_one, most, decide_eq_true_eq, decide_eq_false_iff_not, and_true, true_and, Bool.not_eq_true', Bool.or_eq_true, Bool.or_eq_false_iff, Bool.not_eq_false', Bool.and_eq_true, Bool.and_eq_false_iff, cast_lt, cast_le, hu, nosL, List.nil_append, List.append_nil, r_spY, UF_20, UF_21, UF_23, UF_24, UF_25, UF_26, UF_27, UF_28, UF_7, List.length_nil, backE, zeroE, Int.zero_add, Nat.zero_add, beq_iff_eq, beq_eq_false_iff_ne, ne_eq, lenZ, nmsTo_0, Int.sub_self] at h ⊢
  all_goals first
    | (have hN := hE (by first | grind | exact .inl (by omega))
       have hC := hC hN
       simp only [kindN, again, callsF, namesF, rvF, errF, nmsAt, erAt, rvAt, hN, hC, nos, Nat.lt_irrefl, decide_false, Bool.and_false, Bool.false_eq_true, if_false, if_true, List.append_nil, zeroE, Nat.zero_add] at h ⊢
       first
         | grind
         | (have hO := hO (by omega)
            simp only [hO, cc_nil, I_i, S_i, T_i, itms_i, nosL, if_true, beq_self_eq_true, and_true] at h hg0 hs ⊢
            first | grind | simp_all))
    | (have hN := hG (by omega) (by grind) (by grind)
       simp only [hR, callAt_0, nos, cc_0, cc_s, S_s, nosL] at h ⊢
       grind)
    | skip
theorem spY_all1 (hu : o.uf = UF) (h7 : anyB (B7 (o.v 7045)) (o.v 7045).T.length = false) (hi : i ≤ endN (o.v 7045)) (h0 : 0 < i) : AllL (spY.env o u i) spYL1 := by
  have hg0 := good_pg h7 i
  have hg1 := good_pg h7 (i + 1)
  have hE := @end_is (o.v 7045) i hi
  have hG := @end_gt (o.v 7045) i hi
  have hO := @row_out (o.v 7045) i
  have hO1 := @row_out (o.v 7045) (i + 1)
  have hC := @calls_take (o.v 7044) (o.v 7042) (o.v 7043) (o.v 7045) i
  have hR := @calls_row (o.v 7044) (o.v 7042) (o.v 7043) (o.v 7045) i hi
  have hcl := @calls_len (o.v 7044) (o.v 7042) (o.v 7043) (o.v 7045)
  have hs := @nmsTo_succ (o.v 7045) i
  have hb := nmsTo_len h7 i
  have hle := @end_le (o.v 7045)
  simp only [erAt, frAt, nmsAt] at hg0 hg1 hE hG hs
  rw [callAt_s h0] at hR hC
  simp only [spYL1, allL_cons, allL_nil, and_true]
  and_intros
  all_goals intro h
  all_goals simp only [hold_cons_iff, hold_nil_iff, allT_cons, allT_nil, ob_e, ob_t, dB_lt, dB_le, dB_ieq, dB_seq, dB_not, dB_beq, dB_bl, dB_and, dB_or, dI_il, dI_add, dI_sub, dI_size, dI_tlen, dS_sl, d_v, d_uf, d_cel, d_cell, d_il, d_bl, d_sl, d_add, d_sub, d_take, d_size, d_tlen, dT_take, dT_cat, d_cat, ar_0, ar_1, ar_2, ar_3, ar_4, ar_5, LoopY.env, if_true, if_false, Nat.reduceEqDiff, I_i, B_b, S_s, T_t, T_i, T_cel, hd_1, hd_0, Int.toNat_natCast, Int.toNat_zero, toNat_succ, toNat_one, most, decide_eq_true_eq, decide_eq_false_iff_not, and_true, true_and, Bool.not_eq_true', Bool.or_eq_true, Bool.or_eq_false_iff, Bool.not_eq_false', Bool.and_eq_true, Bool.and_eq_false_iff, cast_lt, cast_le, hu, nosL, List.nil_append, List.append_nil, r_spY, UF_20, UF_21, UF_23, UF_24, UF_25, UF_26, UF_27, UF_28, UF_7, List.length_nil, backE, prevE, beq_iff_eq, beq_eq_false_iff_ne, ne_eq, lenZ, hcl] at h ⊢
  all_goals first
    | (have hN := hE (by first | grind | exact .inl (by omega))
       have hC := hC hN
       simp only [kindN, again, callsF, namesF, rvF, errF, nmsAt, erAt, rvAt, hN, nos] at h hC hcl ⊢
       first
         | grind
         | (have hO := hO (by omega)
            simp only [hO, cc_nil, I_i, S_i, T_i, itms_i, nosL, if_true, beq_self_eq_true, and_true] at h hg0 hs ⊢
            first | grind | simp_all)
         | (have hO1 := hO1 (by omega)
            simp only [hO1, cc_nil, I_i, S_i, T_i, itms_i, nosL, if_true, beq_self_eq_true, and_true] at h hg1 ⊢
            first
              | grind
              | (have hC' : ∀ r, callsN (o.v 7044) (o.v 7042) (o.v 7043) (o.v 7045) ++ r = List.take i (callsN (o.v 7044) (o.v 7042) (o.v 7043) (o.v 7045)) ++ ([o.v 7044, cc (row (o.v 7045) (i - 1)) 1, Dv.s ⟨#[]⟩, Dv.s ⟨#[]⟩] :: r) := fun r => by
                   conv => lhs; rw [← hC]
                   rw [List.append_assoc]; rfl
                 simp_all))
         | skip)
    | (have hN := hG (by omega) (by grind) (by grind)
       simp only [hR, nos, cc_0, cc_s, S_s, nosL] at h ⊢
       first | grind | skip)
    | skip
end
end Go.Proofs.Ytgopjdknmjjheaa.sxPages
