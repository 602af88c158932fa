/-
  THE LAWS FnRetrying*: what their loops compute.
-/
import Derived.Test.YtckdphmpafopmaaSxMLoopH
namespace Go.Proofs.Ytckdphmpafopmaa.sxRetrying
open Go.Sx Go.RowKit
set_option linter.unusedVariables false

def pairK : DKs := .cons .str (.cons .str .nil)
/-- An operation: kind, type, the object's eight cells, number, wait. -/
def stepK : DKs := .cons (.int .i64) (.cons (.int .i64) (.cons .str (.cons .str (.cons .str (.cons .str (.cons (.sl pairK) (.cons .str (.cons .bool (.cons .bool (.cons (.int .i64) (.cons (.int .i64) .nil)))))))))))
def js (a b : Nat) : List Nat := (List.range (b - a)).map (· + a)
def big : E := .il 9223372036854775807

def fits6 : LoopY := guardT 35 4 18 2 pairK 8 10 ([4] ++ js 11 18) 0 7000 2000 1 2 XCtr.none
def c1 : Ctr := ⟨[], [(35, 4, fits6.lpP)]⟩
def fits31 : LoopY := guardT 6 4 18 2 stepK 8 10 ([4] ++ js 11 18) 0 7001 2001 3 4 c1.x
/-- A key that stands in a list already. -/
def dup : LoopY := guardT 22 7 42 2 pairK 26 28 ([6] ++ js 29 38) 2 7002 2002 5 6 XCtr.none [(4, .ptr 1 (.c 0))] [.v 7003] [7003, 7004] [(1, .cells 90 [.str (.v 7003), .str (.v 7004)])]
def c2 : Ctr := ⟨[], [(22, 7, dup.lpP)]⟩
def pairs : LoopY := guardT 22 2 42 2 pairK 7 9 ([3, 4, 6] ++ js 10 39) 0 7005 2005 7 8 c2.x [(0, .dsl pairK (.v 7005))]
def c3 : Ctr := ⟨[], [(22, 2, pairs.lpP), (22, 7, dup.lpP)]⟩
def steps : LoopY := guardT 7 2 111 2 stepK 5 7 ([4] ++ js 8 108) 0 7006 2006 9 10 c3.x
def c4 : Ctr := ⟨[], c1.lps ++ (6, 4, fits31.lpP) :: (7, 2, steps.lpP) :: c3.lps⟩

/-! ### objects are made and read -/
def r10 : E := .v 2010
/-- The loop of impl.objIn. -/
def objIn : LoopY where
  f := 29; key := 3; N := 43; r := 2010; base := 15000
  js := js 21 42
  hd := fun m => ⟨[(1, .ptr 1 (.c 0)), (3, .ptr 2 (.c 0)), (4, .int .i64 r10)],
    (match m with | 0 => [] | _ => [(3, .row 104 2 r10 [.tc .str (.v 7020) 0, .tc .str (.v 7020) 1] [])]) ++
    [(1, .cells 29 [.top, .top, .top, .top, .dsl pairK (.v 7020), .top, .top, .top]),
     (2, .cells 103 [.str (.v 7021), .str (.v 7022), .str (.v 7023), .str (.v 7024), (match m with | 0 => .nilsl | _ => .sl 3 2 (.il 0) r10), .str (.v 7025), .bool (.v 7026), .bool (.v 7027), .nilmap])], 9,
    (match m with | 0 => [(.o2 .ieq r10 (.il 0), true)] | _ => [(.o2 .lt (.il 0) r10, true)]) ++ [(.o2 .le (.il 0) r10, true), (.o2 .le r10 (.o1 .tlen (.v 7020)), true), (.o2 .le (.o1 .tlen (.v 7020)) (.il 2147483647), true)]⟩
  ent := fun _ => [(.o2 .le (.o1 .tlen (.v 7020)) (.il 2147483647), true)]
  app := fun _ => true
  ok0 := fun m => Nat.beq m 0
  modeL := fun sl => match nth sl 3 with | some (.ptr n _) => .get n fun o => (match o with | .cells _ [_, _, _, _, .nilsl, _, _, _, _] => .ret 0 | .cells _ [_, _, _, _, .sl .., _, _, _, _] => .ret 1 | _ => .fail) | _ => .fail
  tgt := fun m => Nat.beq m 1
  mf := fun _ => []
  hx := fun _ => ⟨[(1, .ptr 1 (.c 0)), (3, .ptr 2 (.c 0)), (4, .top)],
    [(1, .cells 29 [.top, .top, .top, .top, .top, .top, .top, .top]), (2, .cells 103 [.str (.v 7021), .str (.v 7022), .str (.v 7023), .str (.v 7024), .dsl pairK (.v 7020), .str (.v 7025), .bool (.v 7026), .bool (.v 7027), .nilmap])], 9, []⟩
  xmL := fun _ _ => .ret 0
  exN := fun _ => .exit 0
  exits := [(.bl true, 0)]
  fixed := [1, 2]
  lt := .o2 .lt r10 (.o1 .tlen (.v 7020))
  X := XCtr.none
  fuel := 100; np := 30
  params := [7020, 7021, 7022, 7023, 7024, 7025, 7026, 7027]

/-- The loop of impl.objOut. -/
def r12 : E := .v 2012
def objOut : LoopY where
  f := 41; key := 9; N := 84; r := 2012; base := 17000
  js := js 62 83
  hd := fun m => ⟨[(3, .ptr 1 (.c 0)), (7, .ptr 2 (.c 0)), (8, .int .i64 r12)],
    (match m with | 0 => [] | _ => [(3, .row 90 2 r12 [.tc .str (.v 7040) 0, .tc .str (.v 7040) 1] [])]) ++
    [(2, .cells 29 [.str (.v 7041), .str (.v 7042), .str (.v 7043), .str (.v 7044), (match m with | 0 => .nilsl | _ => .sl 3 2 (.il 0) r12), .str (.v 7045), .bool (.v 7046), .bool (.v 7047)]),
     (1, .cells 103 [.top, .top, .top, .top, .dsl pairK (.v 7040), .top, .top, .top, .top])], 9,
    (match m with | 0 => [(.o2 .ieq r12 (.il 0), true)] | _ => [(.o2 .lt (.il 0) r12, true)]) ++ [(.o2 .le (.il 0) r12, true), (.o2 .le r12 (.o1 .tlen (.v 7040)), true), (.o2 .le (.o1 .tlen (.v 7040)) (.il 2147483647), true)]⟩
  ent := fun _ => [(.o2 .le (.o1 .tlen (.v 7040)) (.il 2147483647), true)]
  app := fun _ => true
  ok0 := fun m => Nat.beq m 0
  modeL := fun sl => match nth sl 7 with | some (.ptr n _) => .get n fun o => (match o with | .cells _ [_, _, _, _, .nilsl, _, _, _] => .ret 0 | .cells _ [_, _, _, _, .sl .., _, _, _] => .ret 1 | _ => .fail) | _ => .fail
  tgt := fun m => Nat.beq m 1
  mf := fun _ => []
  hx := fun _ => ⟨[(3, .top), (7, .ptr 2 (.c 0)), (8, .top)],
    [(2, .cells 29 [.str (.v 7041), .str (.v 7042), .str (.v 7043), .str (.v 7044), .dsl pairK (.v 7040), .str (.v 7045), .bool (.v 7046), .bool (.v 7047)])], 9, []⟩
  xmL := fun _ _ => .ret 0
  exN := fun _ => .exit 0
  exits := [(.bl true, 0)]
  fixed := [2]
  lt := .o2 .lt r12 (.o1 .tlen (.v 7040))
  X := XCtr.none
  fuel := 100; np := 30
  params := [7040, 7041, 7042, 7043, 7044, 7045, 7046, 7047]

/-! ### impl.Retrying -/
def objD (r : DKs) : DKs := .cons .str (.cons .str (.cons .str (.cons .str (.cons (.sl pairK) (.cons .str (.cons .bool (.cons .bool r)))))))
def sentK : DKs := .cons (.int .i64) (.cons (.int .i64) (objD .nil))
def ansK : DKs := .cons (.sl sentK) (.cons .bool (.cons .str (.cons .bool (.cons (.int .i64) .nil))))
def r11 : E := .v 2011
def imA : E := pk [.v 7031, .v 7030, r11]
def imOut : E := .uf 30 (pk [.v 7031, .v 7030])
def ansCols (e : E) : List Col := [.tc (.sl sentK) e 0, .tc .bool e 1, .tc .str e 2, .tc .bool e 3, .tc (.int .i64) e 4]
/-- The kinds of operations, one by one. -/
def kindF (c : Nat) : Facts :=
  match c with
  | 4 => [1, 2, 3, 4].map fun k => (.o2 .ieq (.o2 (.cell 0) (.v 7030) r11) (.il k), false)
  | c => [(.o2 .ieq (.o2 (.cell 0) (.v 7030) r11) (.il (c + 1 : Nat)), true)]
def im : LoopY where
  f := 8; key := 7; N := 37; r := 2011; base := 16000
  js := js 21 36
  hd := fun μ => let m := μ % 2; ⟨[(0, .str (.v 7031)), (1, .dsl stepK (.v 7030)), (8, .ptr 2 (.c 0)), (9, match m with | 0 => .nilsl | _ => .sl 3 5 (.il 0) r11), (10, .int .i64 r11)],
    (match m with | 0 => [] | _ => [(3, .row 34 5 r11 (ansCols imOut) [])]) ++
    [(2, .cells 57 [.ptr 1 (.c 0), .bool (.uf 21 imA), .bool (.uf 22 imA)]), (1, .cells 69 [.str (.uf 20 imA), .nilsl])], 9,
    (match m with | 0 => [(.o2 .ieq r11 (.il 0), true)] | _ => [(.o2 .lt (.il 0) r11, true)]) ++ [(.o2 .le (.il 0) r11, true), (.o2 .le r11 (.o1 .tlen (.v 7030)), true), (.o2 .le (.o1 .tlen (.v 7030)) (.il 1000), true), (.uf 9 (pk [.v 7030]), false),
     (.o2 .le (.il 0) (.o2 (.cell 0) (.v 7030) r11), true), (.o2 .le (.o2 (.cell 0) (.v 7030) r11) (.il 5), true)] ++ kindF (μ / 2)⟩
  ent := fun _ => [(.o2 .le (.o1 .tlen (.v 7030)) (.il 1000), true), (.uf 9 (pk [.v 7030]), false)]
  app := fun sl => match nth sl 1 with | some (.dsl ..) => true | some (.sl _ _ _ (.il _)) => false | some (.sl ..) => true | _ => false
  ok0 := fun m => Nat.beq m 0
  modeL := fun sl => match nth sl 9 with | some .nilsl => .ret 0 | some (.sl ..) => .ret 1 | _ => .fail
  tgt := fun m => Nat.beq m 1
  mf := fun _ => []
  hx := fun _ => ⟨[(0, .str (.v 7031)), (1, .dsl stepK (.v 7030)), (8, .top), (9, .dsl ansK imOut), (10, .top)], [], 9, []⟩
  xmL := fun _ _ => .ret 0
  exN := fun _ => .exit 0
  exits := [(.bl true, 0)]
  fixed := []
  lt := .o2 .lt r11 (.o1 .tlen (.v 7030))
  X := (Ctr.mk [] [(29, 3, objIn.lpP), (41, 9, objOut.lpP)]).x
  fuel := 300; np := 200
  params := [7030, 7031]
  kds := [(31, stepK)]
def c5 : Ctr := ⟨[], c4.lps ++ [(29, 3, objIn.lpP), (41, 9, objOut.lpP), (8, 7, im.lpP)]⟩

/-! ### FnRetryingEnds -/
def r13 : E := .v 2013
def enA : E := pk [.v 7051, .v 7050, r13]
def enOut : E := .uf 30 (pk [.v 7051, .v 7050])
/-- The loop of the law. -/
def en : LoopY where
  f := 3; key := 10; N := 152; r := 2013; base := 18000
  js := [9, 10, 11] ++ js 54 151
  hd := fun _ => ⟨[(0, .str (.v 7051)), (1, .dsl stepK (.v 7050)), (4, .bool (.bl false)), (5, .dsl ansK enOut), (7, .bool (.uf 22 enA)), (8, .bool (.uf 23 enA)), (51, .dsl stepK (.v 7050)), (52, .int .i64 (.o1 .tlen (.v 7050))), (53, .int .i64 r13)], [], 9,
    [(.o2 .le (.il 0) r13, true), (.o2 .le r13 (.o1 .tlen (.v 7050)), true), (.o2 .le (.o1 .tlen (.v 7050)) (.il 80), true), (.uf 9 (pk [.v 7050]), false),
     (.o2 .ieq (.o1 .tlen enOut) (.o1 .tlen (.v 7050)), true),
     (.o2 .le (.il 0) (.o2 (.cell 0) (.v 7050) r13), true), (.o2 .le (.o2 (.cell 0) (.v 7050) r13) (.il 5), true)]⟩
  ent := fun _ => [(.o2 .le (.o1 .tlen (.v 7050)) (.il 80), true), (.uf 9 (pk [.v 7050]), false)]
  app := fun _ => true
  ok0 := fun m => Nat.beq m 0
  modeL := fun _ => .ret 0
  tgt := fun m => Nat.beq m 0
  mf := fun _ => []
  hx := fun _ => ⟨[(0, .top), (1, .top), (4, .bool (.bl false)), (5, .top), (7, .top), (8, .top), (51, .top), (52, .top), (53, .top)], [], 9, []⟩
  xmL := fun ex _ => match ex with | .ret => .ret 1 | _ => .ret 0
  exN := fun n => match n with | 1 => .ret | _ => .exit 0
  exits := [(.bl false, 1), (.bl true, 0)]
  fixed := []
  lt := .o2 .lt r13 (.o1 .tlen (.v 7050))
  X := XCtr.none
  fuel := 300; np := 200
  params := [7050, 7051]
def c6 : Ctr := ⟨[], c5.lps ++ [(3, 10, en.lpP)]⟩
end Go.Proofs.Ytckdphmpafopmaa.sxRetrying

namespace Go.Proofs.Ytckdphmpafopmaa.sxRetrying
open Go.Sx Go.RowKit
set_option linter.unusedVariables false

/-- One of some things that stand as one. -/
def ar (d : Dv) (k : Nat) : Dv := cc (row d 0) k
theorem ar_0 {a b : Dv} : ar (O2.den .cel a b) 0 = a := id rfl
theorem ar_s {a b : Dv} {k : Nat} : ar (O2.den .cel a b) (k + 1) = ar b k := by
  show cc (a :: b.T.head?.getD []) (k + 1) = cc ((b.T[0]?).getD []) k
  rw [List.head?_eq_getElem?]; rfl
theorem ar_1 {a b c : Dv} : ar (O2.den .cel a (O2.den .cel b c)) 1 = b := id rfl
theorem ar_2 {a b c d : Dv} : ar (O2.den .cel a (O2.den .cel b (O2.den .cel c d))) 2 = c := id rfl

/-! ### guards -/
def most (z : Int) : Bool := decide (2147483647 < z)
def bad6 (l : List Dv) : Bool := most ((cc l 0).S.size : Int) || most ((cc l 1).S.size : Int)
def B6 (d : Dv) (i : Nat) : Bool := bad6 (row d i)
def bad31 (l : List Dv) : Bool :=
  most ((cc l 2).S.size : Int) || most ((cc l 3).S.size : Int) || most ((cc l 4).S.size : Int) || most ((cc l 5).S.size : Int) || most ((cc l 6).T.length : Int) || anyB (B6 (cc l 6)) (cc l 6).T.length || most ((cc l 7).S.size : Int)
def B31 (d : Dv) (i : Nat) : Bool := bad31 (row d i)
def Bdup (d key : Dv) (i : Nat) : Bool := (cc (row d i) 0).S.toList == key.S.toList
def Bpairs (d : Dv) (i : Nat) : Bool := decide (40 < ((cc (row d i) 0).S.size : Int)) || decide (40 < ((cc (row d i) 1).S.size : Int)) || anyB (Bdup (.t (d.T.take i)) (cc (row d i) 0)) (d.T.take i).length
/-- Is an operation one of which the laws speak? -/
def okStep (l : List Dv) : Bool :=
  decide (1 ≤ (cc l 0).I) && decide ((cc l 0).I ≤ 5) && decide (((cc l 2).S.size : Int) ≤ 20) && decide (((cc l 3).S.size : Int) ≤ 20) && decide (((cc l 4).S.size : Int) ≤ 20) && decide (((cc l 5).S.size : Int) ≤ 20) &&
  decide (((cc l 7).S.size : Int) ≤ 40) && decide (((cc l 6).T.length : Int) ≤ 4) && !anyB (Bpairs (cc l 6)) (cc l 6).T.length && !(cc l 9).B && !(cc l 8).B && decide (0 ≤ (cc l 11).I) && decide ((cc l 11).I ≤ 1000000) &&
  (!decide ((cc l 0).I = 2) || decide ((cc l 10).I = 8) || decide ((cc l 10).I = 17) || decide ((cc l 10).I = 19) || decide ((cc l 10).I = 18) || decide ((cc l 10).I = 98)) &&
  (!decide ((cc l 0).I = 4) || decide ((cc l 10).I = 17) || decide ((cc l 10).I = 12) || decide ((cc l 10).I = 18) || decide ((cc l 10).I = 98)) &&
  (!decide ((cc l 0).I = 3) || decide ((cc l 1).I = 1) || decide ((cc l 1).I = 2) || decide ((cc l 1).I = 3) || decide ((cc l 1).I = 8))
def B9 (d : Dv) (i : Nat) : Bool := !okStep (row d i)

/-! ### impl.Retrying -/
structure St where
  rv : ByteArray
  op : Bool
  dn : Bool
def nos : ByteArray := ⟨#[]⟩
def errRow (n : Int) : List Dv := [.i 0, .i n, .s nos, .s nos, .s nos, .s nos, .i 0, .s nos, .b false, .b false]
def evRow (t : Int) (l : List Dv) : List Dv := [.i t, .i 0, cc l 2, cc l 3, cc l 4, cc l 5, cc l 6, cc l 7, cc l 8, cc l 9]
def idle : List Dv := [.t [], .b false, .s nos, .b false, .i 0]
def stepW (s : St) (l : List Dv) : St × List Dv :=
  if s.dn = true then (s, idle)
  else if (cc l 0).I = 1 then (if s.op = true then (s, idle) else (⟨s.rv, true, false⟩, [.t [], .b true, .s s.rv, .b false, .i 0]))
  else if (cc l 0).I = 2 then
    (if s.op = true then (s, idle)
    else if (cc l 10).I = 19 then (⟨s.rv, false, true⟩, [.t [errRow 19], .b true, .s s.rv, .b true, .i 0])
    else (⟨s.rv, false, false⟩, [.t [], .b true, .s s.rv, .b false, .i 0]))
  else if s.op = false then (s, idle)
  else if (cc l 0).I = 3 then
    (if (cc l 5).S.toList = [] then (⟨s.rv, false, true⟩, [.t [errRow 12], .b false, .s nos, .b true, .i 0])
    else if (cc l 1).I = 1 ∨ (cc l 1).I = 2 ∨ (cc l 1).I = 3 then (⟨(cc l 5).S, true, false⟩, [.t [evRow (cc l 1).I l], .b false, .s nos, .b false, .i 0])
    else (⟨(cc l 5).S, true, false⟩, idle))
  else if (cc l 0).I = 4 then
    (if (cc l 10).I = 17 then (⟨s.rv, false, true⟩, [.t [errRow 17], .b false, .s nos, .b true, .i 0])
    else (⟨s.rv, false, false⟩, [.t [], .b false, .s nos, .b false, .i (cc l 11).I]))
  else (⟨s.rv, false, false⟩, idle)
def stAt (rv : ByteArray) (rows : List (List Dv)) : Nat → St
  | 0 => ⟨rv, false, false⟩
  | i + 1 => (stepW (stAt rv rows i) ((rows[i]?).getD [])).1
def ansAt (rv : ByteArray) (rows : List (List Dv)) (i : Nat) : List Dv := (stepW (stAt rv rows i) ((rows[i]?).getD [])).2
/-- What FnRetryingEnds takes for open. -/
def opAt (rv : ByteArray) (rows : List (List Dv)) : Nat → Bool
  | 0 => false
  | i + 1 =>
    if (stAt rv rows i).dn = true then opAt rv rows i
    else if (cc ((rows[i]?).getD []) 0).I = 1 then true
    else if (cc ((rows[i]?).getD []) 0).I = 4 ∨ (cc ((rows[i]?).getD []) 0).I = 5 then false
    else opAt rv rows i
def answers (rv : ByteArray) (rows : List (List Dv)) : Dv := .t ((List.range rows.length).map (ansAt rv rows))

/-! ### FnRetrying: looks at answers -/
def Bix (d k v : Dv) (i : Nat) : Bool := (k.S.toList == (cc (row d i) 0).S.toList) && (v.S.toList == (cc (row d i) 1).S.toList)
def Bsl (d : Dv) (i : Nat) : Bool := !anyB (Bix d (cc (row d i) 0) (cc (row d i) 1)) d.T.length
/-- What was sent: its objects have few labels. -/
def okSent (d : Dv) : Bool := !anyB (fun i => decide (80 < ((cc (row d i) 6).T.length : Int))) d.T.length
def okAns (d : Dv) : Bool := !anyB (fun i => !(okSent (cc (row d i) 0)) || decide (80 < ((cc (row d i) 0).T.length : Int))) d.T.length

/-- Operations' types are numbers. -/
def isI : Dv → Bool
  | .i _ => true
  | _ => false
def plainTy (d : Dv) : Bool := !anyB (fun i => !isI (cc (row d i) 1)) d.T.length

/-! ### FnRetryingWhole -/
def bad18 (l : List Dv) : Bool :=
  most ((cc l 0).S.size : Int) || most ((cc l 1).S.size : Int) || most ((cc l 2).S.size : Int) || most ((cc l 3).S.size : Int) || most ((cc l 4).T.length : Int) || anyB (B6 (cc l 4)) (cc l 4).T.length || most ((cc l 5).S.size : Int)
def B18 (d : Dv) (i : Nat) : Bool := bad18 (row d i)
def badBrk (l : List Dv) : Bool := decide ((cc l 0).I < 0) || decide ((cc l 2).I < 0) || decide (3 < (cc l 2).I) || decide ((cc l 1).I < 0)
def B77 (d : Dv) (i : Nat) : Bool := badBrk (row d i)
/-- Is an object one of which the laws speak? -/
def okObj (l : List Dv) : Bool :=
  decide (((cc l 0).S.size : Int) ≤ 20) && decide (((cc l 1).S.size : Int) ≤ 20) && decide (((cc l 2).S.size : Int) ≤ 20) && decide (((cc l 3).S.size : Int) ≤ 20) && decide (((cc l 5).S.size : Int) ≤ 40) && decide (((cc l 4).T.length : Int) ≤ 4) && !anyB (Bpairs (cc l 4)) (cc l 4).T.length && !(cc l 7).B && !(cc l 6).B
def B86 (d : Dv) (i : Nat) : Bool := !okObj (row d i)
/-- A number as a text. -/
def chB (z : Int) : ByteArray := ByteArray.empty.push (UInt8.ofNat z.toNat)
def nuAt (n : Int) : Nat → Int × ByteArray
  | 0 => (n, nos)
  | k + 1 => ((nuAt n k).1.tdiv 10, chB (48 + (nuAt n k).1.tmod 10) ++ (nuAt n k).2)
def nuN (n : Int) : Nat := stop (fun k => decide ((nuAt n k).1 ≤ 9)) 20
def num (n : Int) : ByteArray := chB (48 + (nuAt n (nuN n)).1) ++ (nuAt n (nuN n)).2
/-- Operations, as the law makes them. -/
def fRow (how : Int) : List Dv := [.i 2, .i 0, .s nos, .s nos, .s nos, .s nos, .i 0, .s nos, .b false, .b false, .i (if how.tmod 2 = 0 then 18 else 98), .i 0]
def oRow : List Dv := [.i 1, .i 0, .s nos, .s nos, .s nos, .s nos, .i 0, .s nos, .b false, .b false, .i 0, .i 0]
def eRow (how : Int) : List Dv := if how.tmod 3 = 0 then [.i 5, .i 0, .s nos, .s nos, .s nos, .s nos, .i 0, .s nos, .b false, .b false, .i 0, .i 0] else [.i 4, .i 0, .s nos, .s nos, .s nos, .s nos, .i 0, .s nos, .b false, .b false, .i (if how.tmod 3 = 1 then 12 else 18), .i 0]
def xRow (first : Int) (o : List Dv) (i : Nat) (ty : Int) : List Dv := [.i 3, .i ty, cc o 0, cc o 1, cc o 2, .s (num (first + 1 + i)), cc o 4, cc o 5, cc o 6, cc o 7, .i 0, .i 0]
def tyOf (o : List Dv) : Int := if ((cc o 5).S.size : Int).tmod 3 = 0 then 1 else if ((cc o 5).S.size : Int).tmod 3 = 1 then 2 else 3
def cRow (first : Int) (ch : Dv) (i : Nat) : List Dv := xRow first (row ch i) i (tyOf (row ch i))
def kRow (first : Int) (ch : Dv) (i : Nat) : List Dv := xRow first (row ch i) i 8
def fails (base : List (List Dv)) (how : Int) (k : Nat) : List (List Dv) := base ++ List.replicate k (fRow how)
def sends (base : List (List Dv)) (first : Int) (ch : Dv) (a k : Nat) : List (List Dv) := base ++ (List.range k).map fun j => cRow first ch (a + j)
def brkN (ch : Dv) (a : Nat) (b : List Dv) : Nat := min (cc b 0).I.toNat (ch.T.length - a)
def brkW (first : Int) (ch : Dv) (s : List (List Dv) × Nat) (b : List Dv) : List (List Dv) × Nat :=
  (sends (fails s.1 (cc b 1).I (cc b 2).I.toNat ++ [oRow]) first ch s.2 (brkN ch s.2 b) ++ (if (cc b 3).B = true ∧ 0 < s.2 + brkN ch s.2 b then [kRow first ch (s.2 + brkN ch s.2 b - 1)] else []) ++ [eRow (cc b 1).I], s.2 + brkN ch s.2 b)
def obAt (first : Int) (ch brs : Dv) : Nat → List (List Dv) × Nat
  | 0 => ([], 0)
  | i + 1 => brkW first ch (obAt first ch brs i) (row brs i)
/-- What answers say. -/
def sentsOf (l : List (List Dv)) : List (List Dv) := l.flatMap fun a => (cc a 0).T
def verOf (v : ByteArray) (l : List (List Dv)) : ByteArray := l.foldl (fun _ r => (cc r 5).S) v
def verAt (v : ByteArray) (l : List (List Dv)) : ByteArray := l.foldl (fun v a => verOf v (cc a 0).T) v
def noErr (l : List (List Dv)) : Bool := l.all fun r => decide ((cc r 1).I = 0) && Nat.beq r.length 10
def okW : ByteArray → List (List Dv) → Bool
  | _, [] => true
  | v, a :: r => !(cc a 3).B && (!(cc a 1).B || (cc a 2).S.toList == v.toList) && noErr (cc a 0).T && decide ((cc a 0).T.length ≤ 80) && okW (verOf v (cc a 0).T) r
/-- What should be sent. -/
def wRow (first : Int) (ch : Dv) (i : Nat) : List Dv := [.i (tyOf (row ch i)), .i 0, cc (row ch i) 0, cc (row ch i) 1, cc (row ch i) 2, .s (num (first + 1 + i)), cc (row ch i) 4, cc (row ch i) 5, cc (row ch i) 6, cc (row ch i) 7]
def want (first : Int) (ch : Dv) (a k : Nat) : List (List Dv) := (List.range k).map fun j => wRow first ch (a + j)
def Btl (d e : Dv) (i : Nat) : Bool := !anyB (Bix e (cc (row d i) 0) (cc (row d i) 1)) e.T.length

def UF (c : Nat) (d : Dv) : Dv :=
  match c with
  | 1 => .b (anyB (B6 (ar d 0)) (ar d 0).T.length)
  | 2 => .i (stop (B6 (ar d 0)) (ar d 0).T.length)
  | 3 => .b (anyB (B31 (ar d 0)) (ar d 0).T.length)
  | 4 => .i (stop (B31 (ar d 0)) (ar d 0).T.length)
  | 5 => .b (anyB (Bdup (ar d 0) (ar d 1)) (ar d 0).T.length)
  | 6 => .i (stop (Bdup (ar d 0) (ar d 1)) (ar d 0).T.length)
  | 7 => .b (anyB (Bpairs (ar d 0)) (ar d 0).T.length)
  | 8 => .i (stop (Bpairs (ar d 0)) (ar d 0).T.length)
  | 9 => .b (anyB (B9 (ar d 0)) (ar d 0).T.length)
  | 10 => .i (stop (B9 (ar d 0)) (ar d 0).T.length)
  | 20 => .s (stAt (ar d 0).S (ar d 1).T (ar d 2).I.toNat).rv
  | 21 => .b (stAt (ar d 0).S (ar d 1).T (ar d 2).I.toNat).op
  | 22 => .b (stAt (ar d 0).S (ar d 1).T (ar d 2).I.toNat).dn
  | 23 => .b (opAt (ar d 0).S (ar d 1).T (ar d 2).I.toNat)
  | 30 => answers (ar d 0).S (ar d 1).T
  | 60 => .b (anyB (Bix (ar d 0) (ar d 1) (ar d 2)) (ar d 0).T.length)
  | 61 => .i (stop (Bix (ar d 0) (ar d 1) (ar d 2)) (ar d 0).T.length)
  | 62 => .b (anyB (Bsl (ar d 0)) (ar d 0).T.length)
  | 63 => .i (stop (Bsl (ar d 0)) (ar d 0).T.length)
  | 64 => .b (okSent (ar d 0))
  | 65 => .b (okAns (ar d 0))
  | 66 => .b (plainTy (ar d 0))
  | 70 => .b (anyB (B18 (ar d 0)) (ar d 0).T.length)
  | 71 => .i (stop (B18 (ar d 0)) (ar d 0).T.length)
  | 72 => .s (nuAt (ar d 0).I (ar d 1).I.toNat).2
  | 73 => .i (nuAt (ar d 0).I (ar d 1).I.toNat).1
  | 74 => .s (nuAt (ar d 0).I (nuN (ar d 0).I)).2
  | 75 => .i (nuAt (ar d 0).I (nuN (ar d 0).I)).1
  | 76 => .i (nuN (ar d 0).I)
  | 77 => .b (anyB (B77 (ar d 0)) (ar d 0).T.length)
  | 78 => .i (stop (B77 (ar d 0)) (ar d 0).T.length)
  | 80 => .t (obAt (ar d 0).I (ar d 1) (ar d 2) (ar d 3).I.toNat).1
  | 81 => .i (obAt (ar d 0).I (ar d 1) (ar d 2) (ar d 3).I.toNat).2
  | 82 => .t (obAt (ar d 0).I (ar d 1) (ar d 2) (ar d 2).T.length).1
  | 83 => .i (obAt (ar d 0).I (ar d 1) (ar d 2) (ar d 2).T.length).2
  | 84 => .t (fails (ar d 0).T (ar d 1).I (ar d 2).I.toNat)
  | 85 => .t (sends (ar d 0).T (ar d 1).I (ar d 2) (ar d 3).I.toNat (ar d 4).I.toNat)
  | 86 => .b (anyB (B86 (ar d 0)) (ar d 0).T.length)
  | 87 => .i (stop (B86 (ar d 0)) (ar d 0).T.length)
  | 88 => .t (sentsOf ((ar d 0).T.take (ar d 1).I.toNat))
  | 89 => .s (verAt (ar d 0).S ((ar d 1).T.take (ar d 2).I.toNat))
  | 90 => .b (okW (ar d 0).S (ar d 1).T)
  | 91 => .t ((ar d 0).T ++ (ar d 1).T.take (ar d 2).I.toNat)
  | 92 => .s (verOf (ar d 0).S ((ar d 1).T.take (ar d 2).I.toNat))
  | 93 => .b (noErr (ar d 0).T)
  | 94 => .t (want (ar d 0).I (ar d 1) 0 (ar d 1).T.length)
  | 96 => .b (anyB (Btl (ar d 0) (ar d 1)) (ar d 0).T.length)
  | 97 => .i (stop (Btl (ar d 0) (ar d 1)) (ar d 0).T.length)
  | _ => .i 0
theorem UF_1 (d : Dv) : UF 1 d = .b (anyB (B6 (ar d 0)) (ar d 0).T.length) := id rfl
theorem UF_2 (d : Dv) : UF 2 d = .i (stop (B6 (ar d 0)) (ar d 0).T.length) := id rfl
theorem UF_3 (d : Dv) : UF 3 d = .b (anyB (B31 (ar d 0)) (ar d 0).T.length) := id rfl
theorem UF_4 (d : Dv) : UF 4 d = .i (stop (B31 (ar d 0)) (ar d 0).T.length) := id rfl
theorem UF_5 (d : Dv) : UF 5 d = .b (anyB (Bdup (ar d 0) (ar d 1)) (ar d 0).T.length) := id rfl
theorem UF_6 (d : Dv) : UF 6 d = .i (stop (Bdup (ar d 0) (ar d 1)) (ar d 0).T.length) := id rfl
theorem UF_7 (d : Dv) : UF 7 d = .b (anyB (Bpairs (ar d 0)) (ar d 0).T.length) := id rfl
theorem UF_8 (d : Dv) : UF 8 d = .i (stop (Bpairs (ar d 0)) (ar d 0).T.length) := id rfl
theorem UF_9 (d : Dv) : UF 9 d = .b (anyB (B9 (ar d 0)) (ar d 0).T.length) := id rfl
theorem UF_10 (d : Dv) : UF 10 d = .i (stop (B9 (ar d 0)) (ar d 0).T.length) := id rfl
theorem UF_20 (d : Dv) : UF 20 d = .s (stAt (ar d 0).S (ar d 1).T (ar d 2).I.toNat).rv := id rfl
theorem UF_21 (d : Dv) : UF 21 d = .b (stAt (ar d 0).S (ar d 1).T (ar d 2).I.toNat).op := id rfl
theorem UF_22 (d : Dv) : UF 22 d = .b (stAt (ar d 0).S (ar d 1).T (ar d 2).I.toNat).dn := id rfl
theorem UF_23 (d : Dv) : UF 23 d = .b (opAt (ar d 0).S (ar d 1).T (ar d 2).I.toNat) := id rfl
theorem UF_60 (d : Dv) : UF 60 d = .b (anyB (Bix (ar d 0) (ar d 1) (ar d 2)) (ar d 0).T.length) := id rfl
theorem UF_61 (d : Dv) : UF 61 d = .i (stop (Bix (ar d 0) (ar d 1) (ar d 2)) (ar d 0).T.length) := id rfl
theorem UF_62 (d : Dv) : UF 62 d = .b (anyB (Bsl (ar d 0)) (ar d 0).T.length) := id rfl
theorem UF_63 (d : Dv) : UF 63 d = .i (stop (Bsl (ar d 0)) (ar d 0).T.length) := id rfl
theorem UF_64 (d : Dv) : UF 64 d = .b (okSent (ar d 0)) := id rfl
theorem UF_65 (d : Dv) : UF 65 d = .b (okAns (ar d 0)) := id rfl
theorem UF_66 (d : Dv) : UF 66 d = .b (plainTy (ar d 0)) := id rfl
theorem UF_30 (d : Dv) : UF 30 d = answers (ar d 0).S (ar d 1).T := id rfl
theorem UF_70 (d : Dv) : UF 70 d = .b (anyB (B18 (ar d 0)) (ar d 0).T.length) := id rfl
theorem UF_71 (d : Dv) : UF 71 d = .i (stop (B18 (ar d 0)) (ar d 0).T.length) := id rfl
theorem UF_72 (d : Dv) : UF 72 d = .s (nuAt (ar d 0).I (ar d 1).I.toNat).2 := id rfl
theorem UF_73 (d : Dv) : UF 73 d = .i (nuAt (ar d 0).I (ar d 1).I.toNat).1 := id rfl
theorem UF_74 (d : Dv) : UF 74 d = .s (nuAt (ar d 0).I (nuN (ar d 0).I)).2 := id rfl
theorem UF_75 (d : Dv) : UF 75 d = .i (nuAt (ar d 0).I (nuN (ar d 0).I)).1 := id rfl
theorem UF_76 (d : Dv) : UF 76 d = .i (nuN (ar d 0).I) := id rfl
theorem UF_77 (d : Dv) : UF 77 d = .b (anyB (B77 (ar d 0)) (ar d 0).T.length) := id rfl
theorem UF_78 (d : Dv) : UF 78 d = .i (stop (B77 (ar d 0)) (ar d 0).T.length) := id rfl
theorem UF_80 (d : Dv) : UF 80 d = .t (obAt (ar d 0).I (ar d 1) (ar d 2) (ar d 3).I.toNat).1 := id rfl
theorem UF_81 (d : Dv) : UF 81 d = .i (obAt (ar d 0).I (ar d 1) (ar d 2) (ar d 3).I.toNat).2 := id rfl
theorem UF_82 (d : Dv) : UF 82 d = .t (obAt (ar d 0).I (ar d 1) (ar d 2) (ar d 2).T.length).1 := id rfl
theorem UF_83 (d : Dv) : UF 83 d = .i (obAt (ar d 0).I (ar d 1) (ar d 2) (ar d 2).T.length).2 := id rfl
theorem UF_84 (d : Dv) : UF 84 d = .t (fails (ar d 0).T (ar d 1).I (ar d 2).I.toNat) := id rfl
theorem UF_85 (d : Dv) : UF 85 d = .t (sends (ar d 0).T (ar d 1).I (ar d 2) (ar d 3).I.toNat (ar d 4).I.toNat) := id rfl
theorem UF_86 (d : Dv) : UF 86 d = .b (anyB (B86 (ar d 0)) (ar d 0).T.length) := id rfl
theorem UF_87 (d : Dv) : UF 87 d = .i (stop (B86 (ar d 0)) (ar d 0).T.length) := id rfl
theorem UF_88 (d : Dv) : UF 88 d = .t (sentsOf ((ar d 0).T.take (ar d 1).I.toNat)) := id rfl
theorem UF_89 (d : Dv) : UF 89 d = .s (verAt (ar d 0).S ((ar d 1).T.take (ar d 2).I.toNat)) := id rfl
theorem UF_90 (d : Dv) : UF 90 d = .b (okW (ar d 0).S (ar d 1).T) := id rfl
theorem UF_91 (d : Dv) : UF 91 d = .t ((ar d 0).T ++ (ar d 1).T.take (ar d 2).I.toNat) := id rfl
theorem UF_92 (d : Dv) : UF 92 d = .s (verOf (ar d 0).S ((ar d 1).T.take (ar d 2).I.toNat)) := id rfl
theorem UF_93 (d : Dv) : UF 93 d = .b (noErr (ar d 0).T) := id rfl
theorem UF_94 (d : Dv) : UF 94 d = .t (want (ar d 0).I (ar d 1) 0 (ar d 1).T.length) := id rfl
theorem UF_96 (d : Dv) : UF 96 d = .b (anyB (Btl (ar d 0) (ar d 1)) (ar d 0).T.length) := id rfl
theorem UF_97 (d : Dv) : UF 97 d = .i (stop (Btl (ar d 0) (ar d 1)) (ar d 0).T.length) := id rfl
theorem ar_3 {a b c d e : Dv} : ar (O2.den .cel a (O2.den .cel b (O2.den .cel c (O2.den .cel d e)))) 3 = d := id rfl
theorem ar_4 {a b c d e f : Dv} : ar (O2.den .cel a (O2.den .cel b (O2.den .cel c (O2.den .cel d (O2.den .cel e f))))) 4 = e := id rfl
end Go.Proofs.Ytckdphmpafopmaa.sxRetrying
