/-
  THE LAWS: what their loops' rounds have to show, as printed.
-/
import Derived.Test.YtckdphmpafopmaaSxRtH
namespace Go.Proofs.Ytckdphmpafopmaa.sxRetrying
open Go.Sx Go.RowKit
set_option linter.unusedVariables false

def objK : DKs := objD .nil
def brkK : DKs := .cons (.int .i64) (.cons (.int .i64) (.cons (.int .i64) (.cons .bool .nil)))
def fits18 : LoopY := guardT 12 4 18 2 objK 8 10 ([4] ++ js 11 18) 0 7100 2020 70 71 c1.x
/-- The loop of rwNumber: numbers of at most sixteen digits. -/
def r21 : E := .v 2021
def nuA : E := pk [.v 7102, r21]
def nuY : LoopY where
  f := 15; key := 2; N := 23; r := 2021; base := 26000
  js := js 4 16
  hd := fun _ => ⟨[(0, .int .i64 (.uf 73 nuA)), (3, .str (.uf 72 nuA))], [], 9,
    [(.o2 .le (.il 0) r21, true), (.o2 .le (.il 0) (.uf 73 nuA), true), (.o2 .le (.uf 73 nuA) (.il 1000000000000000), true), (.o2 .le (.o1 .size (.uf 72 nuA)) (.il 20), true)]⟩
  ent := fun _ => [(.o2 .le (.il 0) (.v 7102), true), (.o2 .le (.v 7102) (.il 1000000000000000), true)]
  app := fun sl => match nth sl 0 with | some (.int _ (.il _)) => false | _ => true
  ok0 := fun m => Nat.beq m 0
  modeL := fun _ => .ret 0
  tgt := fun m => Nat.beq m 0
  mf := fun _ => []
  hx := fun _ => ⟨[(0, .int .i64 (.uf 75 (pk [.v 7102]))), (3, .str (.uf 74 (pk [.v 7102])))], [], 9, []⟩
  xmL := fun _ _ => .ret 0
  exN := fun _ => .exit 0
  exits := [(.bl true, 0)]
  fixed := []
  lt := .o2 .lt r21 (.uf 76 (pk [.v 7102]))
  X := XCtr.none
  fuel := 100; np := 30
  params := [7102]
  pins := fun sl => match nth sl 0 with | some (.int _ e) => [(7102, e)] | _ => []
def stepCols (x : E) : List Col := [.tc (.int .i64) x 0, .tc (.int .i64) x 1, .tc .str x 2, .tc .str x 3, .tc .str x 4, .tc .str x 5, .tc (.sl pairK) x 6, .tc .str x 7, .tc .bool x 8, .tc .bool x 9, .tc (.int .i64) x 10, .tc (.int .i64) x 11]
def stepRow (x : E) : SObj := .row 31 12 (.o1 .tlen x) (stepCols x) []
def stepSl (n : Nat) (x : E) : SV := .sl n 12 (.il 0) (.o1 .tlen x)
/-- Watches that cannot be opened. -/
def r23 : E := .v 2023
def fA : E := pk [.v 7120, .v 7121, r23]
def fX : E := pk [.v 7120, .v 7121, .v 7122]
def fK : LoopY where
  f := 5; key := 14; N := 283; r := 2023; base := 28000
  js := js 76 88
  hd := fun m => ⟨[(7, match m with | 0 => .nilsl | _ => stepSl 3 (.uf 84 fA)), (11, .ptr 1 (.c 0)), (74, .int .i64 (.v 7122)), (75, .int .i64 r23)],
    (match m with | 0 => [] | _ => [(3, stepRow (.uf 84 fA))]) ++ [(1, .cells 44 [.int .i64 (.v 7123), .int .i64 (.v 7121), .int .i64 (.v 7122), .bool (.v 7124)])], 9,
    (match m with | 0 => [(.o2 .ieq r23 (.il 0), true)] | _ => [(.o2 .lt (.il 0) (.o1 .tlen (.uf 84 fA)), true)]) ++
    [(.o2 .le (.il 0) r23, true), (.o2 .le r23 (.v 7122), true), (.o2 .le (.v 7122) (.il 3), true), (.o2 .le (.o1 .tlen (.uf 84 fA)) (.il 20000), true), (.o2 .le (.il 0) (.v 7121), true)]⟩
  ent := fun m => (match m with | 0 => [(.o2 .ieq (.o1 .tlen (.v 7120)) (.il 0), true)] | _ => [(.o2 .lt (.il 0) (.o1 .tlen (.v 7120)), true)]) ++ [(.o2 .le (.il 0) (.v 7122), true), (.o2 .le (.v 7122) (.il 3), true), (.o2 .le (.o1 .tlen (.v 7120)) (.il 10000), true), (.o2 .le (.il 0) (.v 7121), true)]
  app := fun _ => true
  ok0 := fun m => Nat.ble m 1
  modeL := fun sl => match nth sl 7 with | some .nilsl => .ret 0 | some (.sl ..) => .ret 1 | _ => .fail
  tgt := fun m => Nat.beq m 1
  mf := fun _ => []
  hx := fun n => ⟨[(7, match n with | 0 => .nilsl | _ => stepSl 3 (.uf 84 fX)), (11, .ptr 1 (.c 0)), (74, .top), (75, .top)],
    (match n with | 0 => [] | _ => [(3, stepRow (.uf 84 fX))]) ++ [(1, .cells 44 [.int .i64 (.v 7123), .int .i64 (.v 7121), .int .i64 (.v 7122), .bool (.v 7124)])], 9, []⟩
  xmL := fun _ sl => match nth sl 7 with | some .nilsl => .ret 0 | some (.sl ..) => .ret 1 | _ => .fail
  exN := fun _ => .exit 2
  exits := [(.o2 .or (.o2 .lt (.il 0) (.v 7122)) (.o2 .lt (.il 0) (.o1 .tlen (.v 7120))), 1), (.bl true, 0)]
  fixed := [1]
  lt := .o2 .lt r23 (.v 7122)
  X := XCtr.none
  fuel := 100; np := 30
  params := [7120, 7121, 7122, 7123, 7124]
  pinT := [(7120, 7)]
  kds := [(31, stepK)]
/-- Changes are sent. -/
def r24 : E := .v 2024
def hA : E := pk [.v 7130, .v 7131, .v 7132, .v 7133, r24]
def hN : E := .o2 .mn (.v 7134) (.o2 .sub (.o1 .tlen (.v 7132)) (.v 7133))
def hX : E := pk [.v 7130, .v 7131, .v 7132, .v 7133, hN]
def hK : LoopY where
  f := 5; key := 20; N := 283; r := 2024; base := 29000
  js := js 92 113
  hd := fun m => ⟨[(0, .int .i64 (.v 7131)), (1, .dsl objK (.v 7132)), (7, stepSl 3 (.uf 85 hA)), (8, .int .i64 (.o2 .add (.v 7133) r24)), (11, .ptr 1 (.c 0)), (12, .int .i64 r24)],
    [(3, stepRow (.uf 85 hA)), (1, .cells 44 [.int .i64 (.v 7134), .int .i64 (.v 7135), .int .i64 (.v 7136), .bool (.v 7137)])], 9,
    [(.o2 .le (.il 0) r24, true), (.o2 .le r24 hN, true), (.o2 .le (.o1 .tlen (.v 7132)) (.il 40), true), (.o2 .le (.o1 .tlen (.uf 85 hA)) (.il 20000), true), (.o2 .le (.il 0) (.v 7133), true), (.o2 .le (.v 7133) (.o1 .tlen (.v 7132)), true), (.o2 .le (.il 1) (.v 7131), true), (.o2 .le (.v 7131) (.il 1048576), true), (.o2 .le (.il 0) (.v 7134), true),
     (.o2 .le (.o2 .add (.v 7133) r24) (.o1 .tlen (.v 7132)), true), (.o2 .le r24 (.v 7134), true)]⟩
  ent := fun m => [(.o2 .le (.o1 .tlen (.v 7130)) (.il 10010), true), (.o2 .le (.o1 .tlen (.v 7132)) (.il 40), true), (.o2 .le (.il 0) (.v 7133), true), (.o2 .le (.v 7133) (.o1 .tlen (.v 7132)), true), (.o2 .le (.il 1) (.v 7131), true), (.o2 .le (.v 7131) (.il 1048576), true), (.o2 .le (.il 0) (.v 7134), true)]
  app := fun _ => true
  ok0 := fun m => Nat.beq m 0
  modeL := fun sl => match nth sl 7 with | some (.sl ..) => .ret 0 | _ => .fail
  tgt := fun m => Nat.beq m 0
  mf := fun _ => []
  hx := fun n => ⟨[(0, .int .i64 (.v 7131)), (1, .dsl objK (.v 7132)), (7, stepSl 3 (.uf 85 hX)), (8, .int .i64 (.o2 .add (.v 7133) hN)), (11, .ptr 1 (.c 0)), (12, .top)],
    [(3, stepRow (.uf 85 hX)), (1, .cells 44 [.int .i64 (.v 7134), .int .i64 (.v 7135), .int .i64 (.v 7136), .bool (.v 7137)])], 9, []⟩
  xmL := fun _ _ => .ret 0
  exN := fun _ => .exit 4
  exits := [(.bl true, 0)]
  fixed := [1]
  lt := .o2 .lt r24 hN
  X := (Ctr.mk [] [(15, 2, nuY.lpP)]).x
  fuel := 300; np := 60
  params := [7130, 7131, 7132, 7133, 7134, 7135, 7136, 7137]
  pins := fun sl => match nth sl 8 with | some (.int _ e) => [(7133, e)] | _ => []
  pinT := [(7130, 7)]
  kds := [(31, stepK)]
/-- The loop over the breaks. -/
def r22 : E := .v 2022
def obA : E := pk [.v 7110, .v 7111, .v 7112, r22]
def obT : E := .uf 80 obA
def obY : LoopY where
  f := 5; key := 9; N := 283; r := 2022; base := 27000
  js := [11, 12, 13] ++ js 52 149
  hd := fun m => ⟨[(0, .int .i64 (.v 7110)), (1, .dsl objK (.v 7111)), (6, .bool (.bl false)), (7, match m with | 0 => .nilsl | _ => stepSl 3 obT), (8, .int .i64 (.uf 81 obA)), (9, .bool (.bl false)), (49, .dsl brkK (.v 7112)), (50, .int .i64 (.o1 .tlen (.v 7112))), (51, .int .i64 r22)],
    (match m with | 0 => [] | _ => [(3, stepRow obT)]), 9,
    (match m with | 0 => [(.o2 .ieq r22 (.il 0), true)] | _ => [(.o2 .lt (.il 0) r22, true), (.o2 .lt (.il 0) (.o1 .tlen obT), true)]) ++
    [(.o2 .le (.il 0) r22, true), (.o2 .le r22 (.o1 .tlen (.v 7112)), true), (.o2 .le (.o1 .tlen (.v 7112)) (.il 20), true), (.o2 .le (.o1 .tlen (.v 7111)) (.il 40), true), (.o2 .le (.il 1) (.v 7110), true), (.o2 .le (.v 7110) (.il 1048576), true),
     (.o2 .le (.il 0) (.uf 81 obA), true), (.o2 .le (.uf 81 obA) (.o1 .tlen (.v 7111)), true), (.o2 .le (.o1 .tlen obT) (.il 10000), true)]⟩
  ent := fun _ => [(.o2 .le (.o1 .tlen (.v 7112)) (.il 20), true), (.o2 .le (.o1 .tlen (.v 7111)) (.il 40), true), (.o2 .le (.il 1) (.v 7110), true), (.o2 .le (.v 7110) (.il 1048576), true)]
  app := fun _ => true
  ok0 := fun m => Nat.beq m 0
  modeL := fun sl => match nth sl 7 with | some .nilsl => .ret 0 | some (.sl ..) => .ret 1 | _ => .fail
  tgt := fun m => Nat.beq m 1
  mf := fun _ => []
  hx := fun n => ⟨[(0, .int .i64 (.v 7110)), (1, .dsl objK (.v 7111)), (6, .bool (.bl (Nat.beq n 1))), (7, match n with | 0 => .nilsl | 1 => .top | _ => stepSl 3 (.uf 82 (pk [.v 7110, .v 7111, .v 7112]))), (8, match n with | 0 => .int .i64 (.il 0) | 1 => .top | _ => .int .i64 (.uf 83 (pk [.v 7110, .v 7111, .v 7112]))), (9, .bool (.bl false)), (49, .top), (50, .top), (51, .top)],
    (match n with | 2 => [(3, stepRow (.uf 82 (pk [.v 7110, .v 7111, .v 7112])))] | _ => []), 9, []⟩
  xmL := fun ex sl => match ex with | .ret => .ret 1 | _ => (match nth sl 7 with | some .nilsl => .ret 0 | some (.sl ..) => .ret 2 | _ => .fail)
  exN := fun n => match n with | 1 => .ret | _ => .exit 0
  exits := [(.uf 77 (pk [.v 7112]), 1), (.o2 .ieq (.o1 .tlen (.v 7112)) (.il 0), 0), (.bl true, 2)]
  fixed := []
  lt := .o2 .lt r22 (.uf 78 (pk [.v 7112]))
  X := (Ctr.mk [] [(15, 2, nuY.lpP), (5, 14, fK.lpP), (5, 20, hK.lpP)]).x
  fuel := 300; np := 60
  params := [7110, 7111, 7112]
  kds := [(31, stepK)]
/-- The changes that are left. -/
def r25 : E := .v 2025
def iA : E := pk [.v 7140, .v 7141, .v 7142, .v 7143, r25]
def iN : E := .o2 .sub (.o1 .tlen (.v 7142)) (.v 7143)
def iX : E := pk [.v 7140, .v 7141, .v 7142, .v 7143, iN]
def iK : LoopY where
  f := 5; key := 35; N := 283; r := 2025; base := 30000
  js := js 155 168
  hd := fun m => ⟨[(0, .int .i64 (.v 7141)), (1, .dsl objK (.v 7142)), (7, stepSl 3 (.uf 85 iA)), (8, .int .i64 (.o2 .add (.v 7143) r25))],
    [(3, stepRow (.uf 85 iA))], 9,
    [(.o2 .le (.il 0) r25, true), (.o2 .le r25 iN, true), (.o2 .le (.o1 .tlen (.v 7142)) (.il 40), true), (.o2 .le (.o1 .tlen (.uf 85 iA)) (.il 20000), true), (.o2 .le (.il 0) (.v 7143), true), (.o2 .le (.v 7143) (.o1 .tlen (.v 7142)), true), (.o2 .le (.il 1) (.v 7141), true), (.o2 .le (.v 7141) (.il 1048576), true),
     (.o2 .le (.o2 .add (.v 7143) r25) (.o1 .tlen (.v 7142)), true)]⟩
  ent := fun m => [(.o2 .le (.o1 .tlen (.v 7140)) (.il 10010), true), (.o2 .le (.o1 .tlen (.v 7142)) (.il 40), true), (.o2 .le (.il 0) (.v 7143), true), (.o2 .le (.v 7143) (.o1 .tlen (.v 7142)), true), (.o2 .le (.il 1) (.v 7141), true), (.o2 .le (.v 7141) (.il 1048576), true)]
  app := fun _ => true
  ok0 := fun m => Nat.beq m 0
  modeL := fun sl => match nth sl 7 with | some (.sl ..) => .ret 0 | _ => .fail
  tgt := fun m => Nat.beq m 0
  mf := fun _ => []
  hx := fun n => ⟨[(0, .int .i64 (.v 7141)), (1, .dsl objK (.v 7142)), (7, stepSl 3 (.uf 85 iX)), (8, .int .i64 (.o2 .add (.v 7143) iN))],
    [(3, stepRow (.uf 85 iX))], 9, []⟩
  xmL := fun _ _ => .ret 0
  exN := fun _ => .exit 6
  exits := [(.bl true, 0)]
  fixed := []
  lt := .o2 .lt r25 iN
  X := (Ctr.mk [] [(15, 2, nuY.lpP)]).x
  fuel := 300; np := 60
  params := [7140, 7141, 7142, 7143]
  pins := fun sl => match nth sl 8 with | some (.int _ e) => [(7143, e)] | _ => []
  pinT := [(7140, 7)]
  kds := [(31, stepK)]
/-- Are the changes such of which the law speaks? -/
def r26 : E := .v 2026
def jK : LoopY where
  f := 5; key := 39; N := 283; r := 2026; base := 31000
  js := [15] ++ js 171 182
  hd := fun _ => ⟨[(6, .bool (.bl false)), (168, .dsl objK (.v 7150)), (169, .int .i64 (.o1 .tlen (.v 7150))), (170, .int .i64 r26)], [], 9,
    [(.o2 .le (.il 0) r26, true), (.o2 .le r26 (.o1 .tlen (.v 7150)), true), (.o2 .le (.o1 .tlen (.v 7150)) (.il 40), true)]⟩
  ent := fun _ => [(.o2 .le (.o1 .tlen (.v 7150)) (.il 40), true)]
  app := fun _ => true
  ok0 := fun m => Nat.beq m 0
  modeL := fun _ => .ret 0
  tgt := fun m => Nat.beq m 0
  mf := fun _ => []
  hx := fun n => ⟨[(6, .bool (.bl (Nat.beq n 1))), (168, .top), (169, .top), (170, .top)], [], 9, []⟩
  xmL := fun ex _ => match ex with | .ret => .ret 1 | _ => .ret 0
  exN := fun n => match n with | 1 => .ret | _ => .exit 8
  exits := [(.uf 86 (pk [.v 7150]), 1), (.bl true, 0)]
  fixed := []
  lt := .o2 .lt r26 (.uf 87 (pk [.v 7150]))
  X := c3.x
  fuel := 300; np := 80
  params := [7150]
/-- What was sent, gathered. -/
def sentCols (x : E) : List Col := [.tc (.int .i64) x 0, .tc (.int .i64) x 1, .tc .str x 2, .tc .str x 3, .tc .str x 4, .tc .str x 5, .tc (.sl pairK) x 6, .tc .str x 7, .tc .bool x 8, .tc .bool x 9]
def sentRow (x : E) : SObj := .row 36 10 (.o1 .tlen x) (sentCols x) []
def sentSl (n : Nat) (x : E) : SV := .sl n 10 (.il 0) (.o1 .tlen x)
def r28 : E := .v 2028
def kA : E := pk [.v 7170, .v 7171, r28]
def kX : E := pk [.v 7170, .v 7171, .o1 .tlen (.v 7171)]
def kB : E := pk [.v 7172, .v 7171, r28]
def kY : E := pk [.v 7172, .v 7171, .o1 .tlen (.v 7171)]
def kK : LoopY where
  f := 5; key := 55; N := 283; r := 2028; base := 33000
  js := [22] ++ js 233 248
  hd := fun m => ⟨[(6, .bool (.bl false)), (18, match m with | 0 => .nilsl | _ => sentSl 3 (.uf 91 kA)), (19, .str (.uf 92 kB)), (230, .dsl sentK (.v 7171)), (231, .int .i64 (.o1 .tlen (.v 7171))), (232, .int .i64 r28)],
    (match m with | 0 => [] | _ => [(3, sentRow (.uf 91 kA))]), 9,
    (match m with | 0 => [(.o2 .ieq r28 (.il 0), true)] | _ => [(.o2 .lt (.il 0) (.o1 .tlen (.uf 91 kA)), true)]) ++
    [(.o2 .le (.il 0) r28, true), (.o2 .le r28 (.o1 .tlen (.v 7171)), true), (.o2 .le (.o1 .tlen (.v 7171)) (.il 80), true), (.o2 .le (.o1 .tlen (.uf 91 kA)) (.il 200000), true)]⟩
  ent := fun m => (match m with | 0 => [(.o2 .ieq (.o1 .tlen (.v 7170)) (.il 0), true)] | _ => [(.o2 .lt (.il 0) (.o1 .tlen (.v 7170)), true)]) ++ [(.uf 93 (pk [.v 7171]), true), (.o2 .le (.o1 .tlen (.v 7171)) (.il 80), true), (.o2 .le (.o1 .tlen (.v 7170)) (.il 100000), true)]
  app := fun _ => true
  ok0 := fun m => Nat.ble m 1
  modeL := fun sl => match nth sl 18 with | some .nilsl => .ret 0 | some (.sl ..) => .ret 1 | _ => .fail
  tgt := fun m => Nat.beq m 1
  mf := fun _ => []
  hx := fun n => ⟨[(6, .bool (.bl false)), (18, match n with | 0 => .nilsl | 2 => .top | _ => sentSl 3 (.uf 91 kX)), (19, match n with | 2 => .top | _ => .str (.uf 92 kY)), (230, .top), (231, .top), (232, .top)],
    (match n with | 1 => [(3, sentRow (.uf 91 kX))] | _ => []), 9, []⟩
  xmL := fun ex sl => match ex with | .ret => .ret 2 | _ => (match nth sl 18 with | some .nilsl => .ret 0 | some (.sl ..) => .ret 1 | _ => .fail)
  exN := fun n => match n with | 2 => .ret | _ => .exit 12
  exits := [(.bl false, 2), (.o2 .or (.o2 .lt (.il 0) (.o1 .tlen (.v 7171))) (.o2 .lt (.il 0) (.o1 .tlen (.v 7170))), 1), (.bl true, 0)]
  fixed := []
  lt := .o2 .lt r28 (.o1 .tlen (.v 7171))
  X := XCtr.none
  fuel := 100; np := 30
  params := [7170, 7171, 7172]
  pins := fun sl => match nth sl 19 with | some (.str e) => [(7172, e)] | _ => []
  pinT := [(7170, 18)]
  kds := [(36, sentK)]
def r27 : E := .v 2027
def aA : E := pk [.v 7160, r27]
def aX : E := pk [.v 7160, .o1 .tlen (.v 7160)]
def aB : E := pk [.v 7161, .v 7160, r27]
def aK : LoopY where
  f := 5; key := 50; N := 283; r := 2027; base := 32000
  js := [20, 22] ++ js 203 248
  hd := fun m => ⟨[(6, .bool (.bl false)), (16, .dsl ansK (.v 7160)), (18, match m with | 0 => .nilsl | _ => sentSl 3 (.uf 88 aA)), (19, .str (.uf 89 aB)), (200, .dsl ansK (.v 7160)), (201, .int .i64 (.o1 .tlen (.v 7160))), (202, .int .i64 r27)],
    (match m with | 0 => [] | _ => [(3, sentRow (.uf 88 aA))]), 9,
    (match m with | 0 => [(.o2 .ieq (.o1 .tlen (.uf 88 aA)) (.il 0), true)] | _ => [(.o2 .lt (.il 0) (.o1 .tlen (.uf 88 aA)), true)]) ++
    [(.o2 .le (.il 0) r27, true), (.o2 .le r27 (.o1 .tlen (.v 7160)), true), (.o2 .le (.o1 .tlen (.v 7160)) (.il 1000), true), (.o2 .le (.o1 .tlen (.uf 88 aA)) (.il 80000), true)]⟩
  ent := fun _ => [(.uf 90 (pk [.v 7161, .v 7160]), true), (.o2 .le (.o1 .tlen (.v 7160)) (.il 1000), true)]
  app := fun _ => true
  ok0 := fun m => Nat.beq m 0
  modeL := fun sl => match nth sl 18 with | some .nilsl => .ret 0 | some (.sl ..) => .ret 1 | _ => .fail
  tgt := fun m => Nat.ble m 1
  mf := fun m => match m with | 0 => [(.o2 .ieq (.o1 .tlen (.uf 88 aA)) (.il 0), true)] | _ => [(.o2 .lt (.il 0) (.o1 .tlen (.uf 88 aA)), true)]
  hx := fun n => ⟨[(6, .bool (.bl false)), (16, .top), (18, match n with | 0 => .nilsl | 2 => .top | _ => sentSl 3 (.uf 88 aX)), (19, .top), (200, .top), (201, .top), (202, .top)],
    (match n with | 1 => [(3, sentRow (.uf 88 aX))] | _ => []), 9, []⟩
  xmL := fun ex sl => match ex with | .ret => .ret 2 | _ => (match nth sl 18 with | some .nilsl => .ret 0 | some (.sl ..) => .ret 1 | _ => .fail)
  exN := fun n => match n with | 2 => .ret | _ => .exit 10
  exits := [(.bl false, 2), (.o2 .lt (.il 0) (.o1 .tlen (.uf 88 aX)), 1), (.bl true, 0)]
  fixed := []
  lt := .o2 .lt r27 (.o1 .tlen (.v 7160))
  X := (Ctr.mk [] [(5, 55, kK.lpP)]).x
  fuel := 300; np := 60
  params := [7160, 7161]
  pins := fun sl => match nth sl 19 with | some (.str e) => [(7161, e)] | _ => []
  kds := [(36, sentK)]
/-- Are all labels of one list in the other? -/
def tlG : LoopY := guardT 23 4 23 4 pairK 12 14 ([6] ++ js 15 23) 0 7065 2015 96 97 c7.x [(0, .dsl pairK (.v 7065)), (1, .dsl pairK (.v 7066))] [.v 7066] [7066]
def tlY : LoopY := { tlG with ent := fun _ => [(.o2 .le (.o1 .tlen (.v 7065)) (.il 9223372036854775807), true), (.o2 .le (.o1 .tlen (.v 7066)) (.il 9223372036854775807), true)] }
def c11 : Ctr := ⟨[], (23, 4, tlY.lpP) :: c7.lps⟩
/-- What was sent, and what should have been. -/
def r29 : E := .v 2029
def wA : E := .uf 94 (pk [.v 7180, .v 7181])
def wK : LoopY where
  f := 5; key := 65; N := 283; r := 2029; base := 34000
  js := [23, 24] ++ js 256 282
  hd := fun m => ⟨[(0, .int .i64 (.v 7180)), (1, .dsl objK (.v 7181)), (6, .bool (.bl false)), (18, match m with | 0 => .nilsl | _ => sentSl 3 wA), (253, match m with | 0 => .nilsl | _ => sentSl 3 wA), (254, match m with | 0 => .int .i64 (.il 0) | _ => .int .i64 (.o1 .tlen wA)), (255, .int .i64 r29)],
    (match m with | 0 => [] | _ => [(3, sentRow wA)]), 9,
    [(.o2 .le (.il 0) r29, true), (.o2 .le r29 (.o1 .tlen wA), true), (.o2 .le (.o1 .tlen (.v 7181)) (.il 40), true), (.o2 .le (.il 1) (.v 7180), true), (.o2 .le (.v 7180) (.il 1048576), true), (.o2 .ieq (.o1 .tlen wA) (.o1 .tlen (.v 7181)), true)] ++
    (match m with | 0 => [(.o2 .ieq (.o1 .tlen wA) (.il 0), true)] | _ => [(.o2 .lt (.il 0) (.o1 .tlen wA), true)])⟩
  ent := fun m => (match m with | 0 => [(.o2 .ieq (.o1 .tlen (.v 7181)) (.il 0), true)] | _ => []) ++ [(.uf 86 (pk [.v 7181]), false), (.o2 .le (.o1 .tlen (.v 7181)) (.il 40), true), (.o2 .le (.il 1) (.v 7180), true), (.o2 .le (.v 7180) (.il 1048576), true)]
  app := fun _ => true
  ok0 := fun m => Nat.ble m 1
  modeL := fun sl => match nth sl 18 with | some .nilsl => .ret 0 | some (.sl ..) => .ret 1 | _ => .fail
  tgt := fun m => Nat.ble m 1
  mf := fun m => match m with | 0 => [(.o2 .ieq (.o1 .tlen wA) (.il 0), true)] | _ => [(.o2 .lt (.il 0) (.o1 .tlen wA), true)]
  hx := fun n => ⟨[(0, .top), (1, .top), (6, .bool (.bl false)), (18, .top), (253, .top), (254, .top), (255, .top)], [], 9, []⟩
  xmL := fun ex sl => match ex with | .ret => .ret 1 | _ => .ret 0
  exN := fun n => match n with | 1 => .ret | _ => .exit 14
  exits := [(.bl false, 1), (.bl true, 0)]
  fixed := []
  lt := .o2 .lt r29 (.o1 .tlen wA)
  X := (Ctr.mk [] ((15, 2, nuY.lpP) :: c11.lps)).x
  fuel := 300; np := 60
  params := [7180, 7181]
  kds := [(36, sentK)]
def cW : Ctr := ⟨[], c5.lps ++ [(15, 2, nuY.lpP), (12, 4, fits18.lpP), (5, 9, obY.lpP), (5, 35, iK.lpP), (5, 39, jK.lpP), (5, 50, aK.lpP), (5, 65, wK.lpP)]⟩
end Go.Proofs.Ytckdphmpafopmaa.sxRetrying

namespace Go.Proofs.Ytckdphmpafopmaa.sxRetrying
open Go.Sx
set_option linter.unusedVariables false
abbrev qwl0 : E := .o2 .lt (.il 2147483647) (.o1 .size (.o2 (.cell 0) (.v 7100) (.v 2020)))
abbrev qwl1 : E := .o2 .lt (.v 2020) (.o1 .tlen (.v 7100))
abbrev qwl2 : Facts := [(qwl1, true)]
abbrev qwl3 : E := .uf 70 (.o2 .cel (.v 7100) (.il 0))
abbrev qwl4 : E := .o2 .lt (.il 2147483647) (.o1 .size (.o2 (.cell 1) (.v 7100) (.v 2020)))
abbrev qwl5 : Facts := ((qwl0, false) : E × Bool) :: qwl2
abbrev qwl6 : E := .o2 .lt (.il 2147483647) (.o1 .size (.o2 (.cell 2) (.v 7100) (.v 2020)))
abbrev qwl7 : Facts := ((qwl4, false) : E × Bool) :: qwl5
abbrev qwl8 : E := .o2 .lt (.il 2147483647) (.o1 .size (.o2 (.cell 3) (.v 7100) (.v 2020)))
abbrev qwl9 : Facts := ((qwl6, false) : E × Bool) :: qwl7
abbrev qwl10 : E := .o2 .lt (.il 2147483647) (.o1 .tlen (.o2 (.cell 4) (.v 7100) (.v 2020)))
abbrev qwl11 : Facts := ((qwl8, false) : E × Bool) :: qwl9
abbrev qwl12 : E := .uf 1 (.o2 .cel (.o2 (.cell 4) (.v 7100) (.v 2020)) (.il 0))
abbrev qwl13 : Facts := ((qwl10, false) : E × Bool) :: qwl11
abbrev qwl14 : E := .o2 .lt (.il 2147483647) (.o1 .size (.o2 (.cell 5) (.v 7100) (.v 2020)))
abbrev qwl15 : Facts := ((qwl12, false) : E × Bool) :: qwl13
def fits18L0 : List (Facts × List Ob) :=
  [((((qwl0, true) : E × Bool) :: qwl2),
    [(.e qwl3)]),
   ((((qwl4, true) : E × Bool) :: qwl5),
    [(.e qwl3)]),
   ((((qwl6, true) : E × Bool) :: qwl7),
    [(.e qwl3)]),
   ((((qwl8, true) : E × Bool) :: qwl9),
    [(.e qwl3)]),
   ((((qwl10, true) : E × Bool) :: qwl11),
    [(.e qwl3)]),
   ((((qwl12, true) : E × Bool) :: qwl13),
    [(.e qwl3)]),
   ((((qwl14, true) : E × Bool) :: qwl15),
    [(.e qwl3)]),
   ((((qwl14, false) : E × Bool) :: qwl15),
    [(.e (.o2 .lt (.v 2020) (.uf 71 (.o2 .cel (.v 7100) (.il 0)))))]),
   ([(qwl1, false)],
    [(.e (.o1 .not qwl3))])]
abbrev qwl16 : E := .o2 .cel (.v 7102) (.o2 .cel (.v 2021) (.il 0))
abbrev qwl17 : E := .o2 .lt (.il 9) (.uf 73 qwl16)
abbrev qwl18 : E := .o2 .quo (.uf 73 qwl16) (.il 10)
abbrev qwl19 : E := .o2 .add (.il 48) (.o2 .rem (.uf 73 qwl16) (.il 10))
abbrev qwl20 : E := .o1 .chr qwl19
abbrev qwl21 : E := .o2 .cel (.v 7102) (.o2 .cel (.o2 .add (.v 2021) (.il 1)) (.il 0))
def nuYL0 : List (Facts × List Ob) :=
  [([(qwl17, true)],
    [(.e (.o2 .lt (.v 2021) (.uf 76 (.o2 .cel (.v 7102) (.il 0))))), (.e (.o2 .le qwl18 (.il 9223372036854775807))), (.e (.o2 .le (.il (-9223372036854775808)) qwl18)), (.e (.o2 .le (.o2 .add (.o1 .size qwl20) (.o1 .size (.uf 72 qwl16))) (.il 9223372036854775807))), (.e (.o2 .le qwl19 (.il 255))), (.e (.o2 .le (.il 0) qwl19)), (.e (.o2 .le qwl19 (.il 9223372036854775807))), (.e (.o2 .le (.il (-9223372036854775808)) qwl19)), (.e (.o2 .ieq qwl18 (.uf 73 qwl21))), (.e (.o2 .seq (.o2 .cat qwl20 (.uf 72 qwl16)) (.uf 72 qwl21)))]),
   ([(qwl17, false)],
    [(.e (.o2 .ieq (.uf 73 qwl16) (.uf 75 (.o2 .cel (.v 7102) (.il 0))))), (.e (.o2 .seq (.uf 72 qwl16) (.uf 74 (.o2 .cel (.v 7102) (.il 0)))))])]
abbrev qwl22 : E := .o2 .ieq (.o2 .rem (.v 7121) (.il 2)) (.il 0)
abbrev qwl23 : Facts := [((.o2 .lt (.v 2023) (.v 7122)), true)]
abbrev qwl24 : Facts := ((qwl22, true) : E × Bool) :: qwl23
abbrev qwl25 : E := .uf 84 (.o2 .cel (.v 7120) (.o2 .cel (.v 7121) (.o2 .cel (.o2 .add (.v 2023) (.il 1)) (.il 0))))
abbrev qwl26 : E := .o1 .tlen qwl25
abbrev qwl27 : E := .o2 (.cell 10) qwl25 (.il 0)
abbrev qwl28 : List Ob := [(.e (.o2 .ieq (.il 0) (.o2 (.cell 11) qwl25 (.il 0))))]
abbrev qwl29 : Facts := ((qwl22, false) : E × Bool) :: qwl23
abbrev qwl30 : Facts := [((.o2 .lt (.v 2023) (.v 7122)), false)]
abbrev qwl31 : E := .o2 .or (.o2 .lt (.il 0) (.v 7122)) (.o2 .lt (.il 0) (.o1 .tlen (.v 7120)))
def fKL0 : List (Facts × List Ob) :=
  [(qwl24,
    (((.e (.o2 .ieq (.il 1) qwl26)) : Ob) :: ((.e (.o2 .ieq qwl26 (.il 1))) : Ob) :: ((.e (.o2 .ieq (.il 2) (.o2 (.cell 0) qwl25 (.il 0)))) : Ob) :: ((.e (.o2 .ieq (.il 0) (.o2 (.cell 1) qwl25 (.il 0)))) : Ob) :: ((.e (.o2 .seq (.sl []) (.o2 (.cell 2) qwl25 (.il 0)))) : Ob) :: ((.e (.o2 .seq (.sl []) (.o2 (.cell 3) qwl25 (.il 0)))) : Ob) :: ((.e (.o2 .seq (.sl []) (.o2 (.cell 4) qwl25 (.il 0)))) : Ob) :: ((.e (.o2 .seq (.sl []) (.o2 (.cell 5) qwl25 (.il 0)))) : Ob) :: ((.t (.il 0) (.o2 (.cell 6) qwl25 (.il 0))) : Ob) :: ((.e (.o2 .seq (.sl []) (.o2 (.cell 7) qwl25 (.il 0)))) : Ob) :: ((.e (.o2 .beq (.bl false) (.o2 (.cell 8) qwl25 (.il 0)))) : Ob) :: ((.e (.o2 .beq (.bl false) (.o2 (.cell 9) qwl25 (.il 0)))) : Ob) :: ((.e (.o2 .ieq (.il 18) qwl27)) : Ob) :: qwl28)),
   (qwl29,
    (((.e (.o2 .ieq (.o2 .rem (.v 7121) (.il 2)) (.il 1))) : Ob) :: ((.e (.o2 .lt (.o2 .rem (.v 7121) (.il 2)) (.il 2))) : Ob) :: ((.e (.o2 .le (.il 0) (.o2 .rem (.v 7121) (.il 2)))) : Ob) :: ((.e (.o2 .ieq (.il 1) qwl26)) : Ob) :: ((.e (.o2 .ieq qwl26 (.il 1))) : Ob) :: ((.e (.o2 .ieq (.il 2) (.o2 (.cell 0) qwl25 (.il 0)))) : Ob) :: ((.e (.o2 .ieq (.il 0) (.o2 (.cell 1) qwl25 (.il 0)))) : Ob) :: ((.e (.o2 .seq (.sl []) (.o2 (.cell 2) qwl25 (.il 0)))) : Ob) :: ((.e (.o2 .seq (.sl []) (.o2 (.cell 3) qwl25 (.il 0)))) : Ob) :: ((.e (.o2 .seq (.sl []) (.o2 (.cell 4) qwl25 (.il 0)))) : Ob) :: ((.e (.o2 .seq (.sl []) (.o2 (.cell 5) qwl25 (.il 0)))) : Ob) :: ((.t (.il 0) (.o2 (.cell 6) qwl25 (.il 0))) : Ob) :: ((.e (.o2 .seq (.sl []) (.o2 (.cell 7) qwl25 (.il 0)))) : Ob) :: ((.e (.o2 .beq (.bl false) (.o2 (.cell 8) qwl25 (.il 0)))) : Ob) :: ((.e (.o2 .beq (.bl false) (.o2 (.cell 9) qwl25 (.il 0)))) : Ob) :: ((.e (.o2 .ieq (.il 98) qwl27)) : Ob) :: qwl28)),
   (qwl30,
    [(.e (.o1 .not qwl31))])]
abbrev qwl32 : E := .uf 84 (.o2 .cel (.v 7120) (.o2 .cel (.v 7121) (.o2 .cel (.v 2023) (.il 0))))
abbrev qwl33 : E := .o1 .tlen qwl32
abbrev qwl34 : E := .o2 .cel (.il 0) (.o2 .cel (.sl []) (.o2 .cel (.sl []) (.o2 .cel (.sl []) (.o2 .cel (.sl []) (.o2 .cel (.il 0) (.o2 .cel (.sl []) (.o2 .cel (.bl false) (.o2 .cel (.bl false) (.o2 .cel (.il 18) (.o2 .cel (.il 0) (.il 0)))))))))))
abbrev qwl35 : E := .uf 84 (.o2 .cel (.v 7120) (.o2 .cel (.v 7121) (.o2 .cel (.v 7122) (.il 0))))
def fKL1 : List (Facts × List Ob) :=
  [(qwl24,
    [(.e (.o2 .ieq (.o2 .add qwl33 (.il 1)) qwl26)), (.t (.o2 .tcat qwl32 (.o2 .cel (.il 2) qwl34)) qwl25)]),
   (qwl29,
    [(.e (.o2 .ieq (.o2 .rem (.v 7121) (.il 2)) (.il 1))), (.e (.o2 .lt (.o2 .rem (.v 7121) (.il 2)) (.il 2))), (.e (.o2 .le (.il 0) (.o2 .rem (.v 7121) (.il 2)))), (.e (.o2 .ieq (.o2 .add qwl33 (.il 1)) qwl26)), (.t (.o2 .tcat qwl32 (.o2 .cel (.il 2) (.o2 .cel (.il 0) (.o2 .cel (.sl []) (.o2 .cel (.sl []) (.o2 .cel (.sl []) (.o2 .cel (.sl []) (.o2 .cel (.il 0) (.o2 .cel (.sl []) (.o2 .cel (.bl false) (.o2 .cel (.bl false) (.o2 .cel (.il 98) (.o2 .cel (.il 0) (.il 0)))))))))))))) qwl25)]),
   (qwl30,
    [(.e qwl31), (.e (.o2 .ieq qwl33 (.o1 .tlen qwl35))), (.t qwl32 qwl35)])]
abbrev qwl36 : E := .o2 (.cell 5) (.v 7132) (.o2 .add (.v 7133) (.v 2024))
abbrev qwl37 : E := .o2 .rem (.o1 .size qwl36) (.il 3)
abbrev qwl38 : E := .o2 .ieq qwl37 (.il 0)
abbrev qwl39 : E := .o2 .lt (.o2 .add (.v 7133) (.v 2024)) (.o1 .tlen (.v 7132))
abbrev qwl40 : Facts := [((.o2 .lt (.v 2024) (.v 7134)), true)]
abbrev qwl41 : Facts := ((qwl39, true) : E × Bool) :: qwl40
abbrev qwl42 : E := .o2 .mn (.v 7134) (.o2 .sub (.o1 .tlen (.v 7132)) (.v 7133))
abbrev qwl43 : E := .o2 .add (.o2 .add (.v 7131) (.il 1)) (.o2 .add (.v 7133) (.v 2024))
abbrev qwl44 : E := .o2 .cel qwl43 (.il 0)
abbrev qwl45 : E := .o2 .add (.il 48) (.uf 75 qwl44)
abbrev qwl46 : E := .o1 .chr qwl45
abbrev qwl47 : E := .o2 .cel qwl43 (.o2 .cel (.il 0) (.il 0))
abbrev qwl48 : E := .uf 85 (.o2 .cel (.v 7130) (.o2 .cel (.v 7131) (.o2 .cel (.v 7132) (.o2 .cel (.v 7133) (.o2 .cel (.v 2024) (.il 0))))))
abbrev qwl49 : E := .o1 .tlen qwl48
abbrev qwl50 : E := .uf 85 (.o2 .cel (.v 7130) (.o2 .cel (.v 7131) (.o2 .cel (.v 7132) (.o2 .cel (.v 7133) (.o2 .cel (.o2 .add (.v 2024) (.il 1)) (.il 0))))))
abbrev qwl51 : E := .o2 .cel (.il 0) (.o2 .cel (.il 0) (.il 0))
abbrev qwl52 : E := .o2 .cel (.o2 (.cell 0) (.v 7132) (.o2 .add (.v 7133) (.v 2024))) (.o2 .cel (.o2 (.cell 1) (.v 7132) (.o2 .add (.v 7133) (.v 2024))) (.o2 .cel (.o2 (.cell 2) (.v 7132) (.o2 .add (.v 7133) (.v 2024))) (.o2 .cel (.o2 .cat qwl46 (.uf 74 qwl44)) (.o2 .cel (.o2 (.cell 4) (.v 7132) (.o2 .add (.v 7133) (.v 2024))) (.o2 .cel qwl36 (.o2 .cel (.o2 (.cell 6) (.v 7132) (.o2 .add (.v 7133) (.v 2024))) (.o2 .cel (.o2 (.cell 7) (.v 7132) (.o2 .add (.v 7133) (.v 2024))) qwl51)))))))
abbrev qwl53 : E := .o2 .ieq qwl37 (.il 1)
abbrev qwl54 : Facts := ((qwl38, false) : E × Bool) :: qwl41
abbrev qwl55 : E := .uf 85 (.o2 .cel (.v 7130) (.o2 .cel (.v 7131) (.o2 .cel (.v 7132) (.o2 .cel (.v 7133) (.o2 .cel qwl42 (.il 0))))))
abbrev qwl56 : List Ob := [(.e (.o2 .ieq qwl49 (.o1 .tlen qwl55))), (.e (.o2 .ieq (.o2 .add (.v 7133) (.v 2024)) (.o2 .add (.v 7133) qwl42))), (.t qwl48 qwl55)]
def hKL0 : List (Facts × List Ob) :=
  [((((qwl38, true) : E × Bool) :: qwl41),
    [(.e (.o2 .lt (.v 2024) qwl42)), (.e (.o2 .le (.o2 .add (.v 2024) (.il 1)) (.il 9223372036854775807))), (.e (.o2 .le (.o2 .add (.o1 .size qwl46) (.o1 .size (.uf 74 qwl44))) (.il 9223372036854775807))), (.e (.o2 .le qwl45 (.il 255))), (.e (.o2 .le (.il 0) qwl45)), (.e (.o2 .le qwl45 (.il 9223372036854775807))), (.e (.o2 .le (.il (-9223372036854775808)) qwl45)), (.e (.o2 .seq (.sl []) (.uf 72 qwl47))), (.e (.o2 .ieq qwl43 (.uf 73 qwl47))), (.e (.o2 .ieq (.o2 .add qwl49 (.il 1)) (.o1 .tlen qwl50))), (.e (.o2 .ieq (.o2 .add (.o2 .add (.v 7133) (.v 2024)) (.il 1)) (.o2 .add (.v 7133) (.o2 .add (.v 2024) (.il 1))))), (.t (.o2 .tcat qwl48 (.o2 .cel (.il 3) (.o2 .cel (.il 1) qwl52))) qwl50)]),
   ((((qwl53, true) : E × Bool) :: qwl54),
    [(.e (.o2 .lt (.v 2024) qwl42)), (.e (.o2 .le (.o2 .add (.v 2024) (.il 1)) (.il 9223372036854775807))), (.e (.o2 .le (.o2 .add (.o1 .size qwl46) (.o1 .size (.uf 74 qwl44))) (.il 9223372036854775807))), (.e (.o2 .le qwl45 (.il 255))), (.e (.o2 .le (.il 0) qwl45)), (.e (.o2 .le qwl45 (.il 9223372036854775807))), (.e (.o2 .le (.il (-9223372036854775808)) qwl45)), (.e (.o2 .seq (.sl []) (.uf 72 qwl47))), (.e (.o2 .ieq qwl43 (.uf 73 qwl47))), (.e (.o2 .ieq (.o2 .add qwl49 (.il 1)) (.o1 .tlen qwl50))), (.e (.o2 .ieq (.o2 .add (.o2 .add (.v 7133) (.v 2024)) (.il 1)) (.o2 .add (.v 7133) (.o2 .add (.v 2024) (.il 1))))), (.t (.o2 .tcat qwl48 (.o2 .cel (.il 3) (.o2 .cel (.il 2) qwl52))) qwl50)]),
   ((((qwl53, false) : E × Bool) :: qwl54),
    [(.e (.o2 .lt (.v 2024) qwl42)), (.e (.o2 .le (.o2 .add (.v 2024) (.il 1)) (.il 9223372036854775807))), (.e (.o2 .ieq qwl37 (.il 2))), (.e (.o2 .lt qwl37 (.il 3))), (.e (.o2 .le (.il 0) qwl37)), (.e (.o2 .le (.o2 .add (.o1 .size qwl46) (.o1 .size (.uf 74 qwl44))) (.il 9223372036854775807))), (.e (.o2 .le qwl45 (.il 255))), (.e (.o2 .le (.il 0) qwl45)), (.e (.o2 .le qwl45 (.il 9223372036854775807))), (.e (.o2 .le (.il (-9223372036854775808)) qwl45)), (.e (.o2 .seq (.sl []) (.uf 72 qwl47))), (.e (.o2 .ieq qwl43 (.uf 73 qwl47))), (.e (.o2 .ieq (.o2 .add qwl49 (.il 1)) (.o1 .tlen qwl50))), (.e (.o2 .ieq (.o2 .add (.o2 .add (.v 7133) (.v 2024)) (.il 1)) (.o2 .add (.v 7133) (.o2 .add (.v 2024) (.il 1))))), (.t (.o2 .tcat qwl48 (.o2 .cel (.il 3) (.o2 .cel (.il 3) qwl52))) qwl50)]),
   ((((qwl39, false) : E × Bool) :: qwl40),
    qwl56),
   ([((.o2 .lt (.v 2024) (.v 7134)), false)],
    qwl56)]
abbrev qwl57 : E := .o2 .lt (.o2 (.cell 0) (.v 7112) (.v 2022)) (.il 0)
abbrev qwl58 : E := .o2 .lt (.v 2022) (.o1 .tlen (.v 7112))
abbrev qwl59 : Facts := [(qwl58, true)]
abbrev qwl60 : Facts := ((qwl57, true) : E × Bool) :: qwl59
abbrev qwl61 : E := .uf 77 (.o2 .cel (.v 7112) (.il 0))
abbrev qwl62 : E := .o2 .lt (.o2 (.cell 2) (.v 7112) (.v 2022)) (.il 0)
abbrev qwl63 : Facts := ((qwl57, false) : E × Bool) :: qwl59
abbrev qwl64 : Facts := ((qwl62, true) : E × Bool) :: qwl63
abbrev qwl65 : E := .o2 .lt (.il 3) (.o2 (.cell 2) (.v 7112) (.v 2022))
abbrev qwl66 : Facts := ((qwl62, false) : E × Bool) :: qwl63
abbrev qwl67 : Facts := ((qwl65, true) : E × Bool) :: qwl66
abbrev qwl68 : E := .o2 .lt (.o2 (.cell 1) (.v 7112) (.v 2022)) (.il 0)
abbrev qwl69 : Facts := ((qwl65, false) : E × Bool) :: qwl66
abbrev qwl70 : Facts := ((qwl68, true) : E × Bool) :: qwl69
abbrev qwl71 : E := .o2 .rem (.o2 (.cell 1) (.v 7112) (.v 2022)) (.il 3)
abbrev qwl72 : E := .o2 .ieq qwl71 (.il 0)
abbrev qwl73 : E := .o2 .cel (.v 7110) (.o2 .cel (.v 7111) (.o2 .cel (.v 7112) (.o2 .cel (.v 2022) (.il 0))))
abbrev qwl74 : E := .o2 .mn (.o2 (.cell 0) (.v 7112) (.v 2022)) (.o2 .sub (.o1 .tlen (.v 7111)) (.uf 81 qwl73))
abbrev qwl75 : E := .o2 .add (.uf 81 qwl73) qwl74
abbrev qwl76 : E := .o2 .sub qwl75 (.il 1)
abbrev qwl77 : E := .o2 (.cell 5) (.v 7111) qwl76
abbrev qwl78 : E := .o2 .rem (.o1 .size qwl77) (.il 3)
abbrev qwl79 : E := .o2 .ieq qwl78 (.il 0)
abbrev qwl80 : E := .o2 .lt (.il 0) qwl75
abbrev qwl81 : E := .o2 .lt (.il 0) (.o2 (.cell 2) (.v 7112) (.v 2022))
abbrev qwl82 : Facts := ((qwl68, false) : E × Bool) :: qwl69
abbrev qwl83 : Facts := ((qwl81, true) : E × Bool) :: qwl82
abbrev qwl84 : Facts := (((.o2 (.cell 3) (.v 7112) (.v 2022)), true) : E × Bool) :: qwl83
abbrev qwl85 : Facts := ((qwl80, true) : E × Bool) :: qwl84
abbrev qwl86 : Facts := ((qwl79, true) : E × Bool) :: qwl85
abbrev qwl87 : E := .o2 .cel (.o2 (.cell 1) (.v 7112) (.v 2022)) (.o2 .cel (.o2 (.cell 2) (.v 7112) (.v 2022)) (.il 0))
abbrev qwl88 : E := .uf 84 (.o2 .cel (.il 0) qwl87)
abbrev qwl89 : E := .o2 .cel (.il 0) (.o2 .cel (.sl []) (.o2 .cel (.sl []) (.o2 .cel (.sl []) (.o2 .cel (.sl []) (.o2 .cel (.il 0) (.o2 .cel (.sl []) (.o2 .cel (.bl false) (.o2 .cel (.bl false) qwl51))))))))
abbrev qwl90 : E := .o2 .cel (.il 1) qwl89
abbrev qwl91 : E := .o2 .tcat qwl88 qwl90
abbrev qwl92 : E := .o2 .cel (.v 7110) (.o2 .cel (.v 7111) (.o2 .cel (.uf 81 qwl73) (.o2 .cel qwl74 (.il 0))))
abbrev qwl93 : E := .uf 85 (.o2 .cel qwl91 qwl92)
abbrev qwl94 : E := .o1 .tlen qwl93
abbrev qwl95 : E := .o2 .add qwl94 (.il 1)
abbrev qwl96 : E := .o2 .add (.o2 .add (.v 7110) (.il 1)) qwl76
abbrev qwl97 : E := .o2 .cel qwl96 (.il 0)
abbrev qwl98 : E := .o2 .add (.il 48) (.uf 75 qwl97)
abbrev qwl99 : E := .o1 .chr qwl98
abbrev qwl100 : E := .o2 .cel qwl96 (.o2 .cel (.il 0) (.il 0))
abbrev qwl101 : E := .o2 .cel (.v 7110) (.o2 .cel (.v 7111) (.o2 .cel (.uf 81 qwl73) (.o2 .cel (.il 0) (.il 0))))
abbrev qwl102 : E := .uf 85 (.o2 .cel qwl91 qwl101)
abbrev qwl103 : E := .o1 .tlen qwl88
abbrev qwl104 : E := .o2 .add qwl103 (.il 1)
abbrev qwl105 : E := .o2 .cel (.v 7110) (.o2 .cel (.v 7111) (.o2 .cel (.v 7112) (.o2 .cel (.o2 .add (.v 2022) (.il 1)) (.il 0))))
abbrev qwl106 : E := .uf 80 qwl105
abbrev qwl107 : E := .o1 .tlen qwl106
abbrev qwl108 : E := .o2 .cel (.il 3) (.o2 .cel (.il 8) (.o2 .cel (.o2 (.cell 0) (.v 7111) qwl76) (.o2 .cel (.o2 (.cell 1) (.v 7111) qwl76) (.o2 .cel (.o2 (.cell 2) (.v 7111) qwl76) (.o2 .cel (.o2 .cat qwl99 (.uf 74 qwl97)) (.o2 .cel (.o2 (.cell 4) (.v 7111) qwl76) (.o2 .cel qwl77 (.o2 .cel (.o2 (.cell 6) (.v 7111) qwl76) (.o2 .cel (.o2 (.cell 7) (.v 7111) qwl76) qwl51)))))))))
abbrev qwl109 : E := .o2 .cel (.il 5) qwl89
abbrev qwl110 : E := .o2 .tcat qwl108 qwl109
abbrev qwl111 : List Ob := [(.e (.o2 .le (.o2 .add (.o1 .size qwl99) (.o1 .size (.uf 74 qwl97))) (.il 9223372036854775807))), (.e (.o2 .le qwl98 (.il 255))), (.e (.o2 .le (.il 0) qwl98)), (.e (.o2 .le qwl98 (.il 9223372036854775807))), (.e (.o2 .le (.il (-9223372036854775808)) qwl98)), (.e (.o2 .seq (.sl []) (.uf 72 qwl100))), (.e (.o2 .ieq qwl96 (.uf 73 qwl100))), (.e (.o2 .le qwl96 (.il 1000000000000000))), (.e (.o2 .le qwl96 (.il 9223372036854775807))), (.e (.o2 .lt qwl76 (.o1 .tlen (.v 7111)))), (.e (.o2 .le qwl76 (.il 9223372036854775807))), (.t qwl91 qwl102), (.e (.o2 .ieq (.uf 81 qwl73) (.o2 .add (.uf 81 qwl73) (.il 0)))), (.e (.o2 .ieq qwl104 (.o1 .tlen qwl102))), (.e (.o2 .le qwl104 (.il 10010))), (.e (.o2 .le qwl103 (.il 2147483648))), (.e (.o2 .ieq (.o2 .add qwl94 (.il 2)) qwl107)), (.e (.o2 .ieq qwl75 (.uf 81 qwl105))), (.t (.o2 .tcat qwl93 qwl110) qwl106)]
abbrev qwl112 : List Ob := ((.e (.o2 .lt (.v 2022) (.uf 78 (.o2 .cel (.v 7112) (.il 0))))) : Ob) :: ((.e (.o2 .le qwl95 (.il 2147483648))) : Ob) :: ((.e (.o2 .le qwl94 (.il 2147483648))) : Ob) :: qwl111
abbrev qwl113 : E := .o2 .sub qwl71 (.il 1)
abbrev qwl114 : E := .o2 .ieq qwl113 (.il 0)
abbrev qwl115 : Facts := ((qwl72, false) : E × Bool) :: qwl86
abbrev qwl116 : E := .o2 .cel (.il 4) (.o2 .cel (.il 0) (.o2 .cel (.sl []) (.o2 .cel (.sl []) (.o2 .cel (.sl []) (.o2 .cel (.sl []) (.o2 .cel (.il 0) (.o2 .cel (.sl []) (.o2 .cel (.bl false) (.o2 .cel (.bl false) (.o2 .cel (.il 12) (.o2 .cel (.il 0) (.il 0))))))))))))
abbrev qwl117 : E := .o2 .tcat qwl108 qwl116
abbrev qwl118 : List Ob := [(.e (.o2 .le (.o2 .add (.o1 .size qwl99) (.o1 .size (.uf 74 qwl97))) (.il 9223372036854775807))), (.e (.o2 .le qwl98 (.il 255))), (.e (.o2 .le (.il 0) qwl98)), (.e (.o2 .le qwl98 (.il 9223372036854775807))), (.e (.o2 .le (.il (-9223372036854775808)) qwl98)), (.e (.o2 .seq (.sl []) (.uf 72 qwl100))), (.e (.o2 .ieq qwl96 (.uf 73 qwl100))), (.e (.o2 .le qwl96 (.il 1000000000000000))), (.e (.o2 .le qwl96 (.il 9223372036854775807))), (.e (.o2 .lt qwl76 (.o1 .tlen (.v 7111)))), (.e (.o2 .le qwl76 (.il 9223372036854775807))), (.t qwl91 qwl102), (.e (.o2 .ieq (.uf 81 qwl73) (.o2 .add (.uf 81 qwl73) (.il 0)))), (.e (.o2 .ieq qwl104 (.o1 .tlen qwl102))), (.e (.o2 .le qwl104 (.il 10010))), (.e (.o2 .le qwl103 (.il 2147483648))), (.e (.o2 .ieq (.o2 .add qwl94 (.il 2)) qwl107)), (.e (.o2 .ieq qwl75 (.uf 81 qwl105))), (.t (.o2 .tcat qwl93 qwl117) qwl106)]
abbrev qwl119 : List Ob := ((.e (.o2 .lt (.v 2022) (.uf 78 (.o2 .cel (.v 7112) (.il 0))))) : Ob) :: ((.e (.o2 .le qwl95 (.il 2147483648))) : Ob) :: ((.e (.o2 .le qwl94 (.il 2147483648))) : Ob) :: qwl118
abbrev qwl120 : E := .o2 .cel (.il 4) qwl34
abbrev qwl121 : E := .o2 .tcat qwl108 qwl120
abbrev qwl122 : List Ob := [(.e (.o2 .le (.o2 .add (.o1 .size qwl99) (.o1 .size (.uf 74 qwl97))) (.il 9223372036854775807))), (.e (.o2 .le qwl98 (.il 255))), (.e (.o2 .le (.il 0) qwl98)), (.e (.o2 .le qwl98 (.il 9223372036854775807))), (.e (.o2 .le (.il (-9223372036854775808)) qwl98)), (.e (.o2 .seq (.sl []) (.uf 72 qwl100))), (.e (.o2 .ieq qwl96 (.uf 73 qwl100))), (.e (.o2 .le qwl96 (.il 1000000000000000))), (.e (.o2 .le qwl96 (.il 9223372036854775807))), (.e (.o2 .lt qwl76 (.o1 .tlen (.v 7111)))), (.e (.o2 .le qwl76 (.il 9223372036854775807))), (.t qwl91 qwl102), (.e (.o2 .ieq (.uf 81 qwl73) (.o2 .add (.uf 81 qwl73) (.il 0)))), (.e (.o2 .ieq qwl104 (.o1 .tlen qwl102))), (.e (.o2 .le qwl104 (.il 10010))), (.e (.o2 .le qwl103 (.il 2147483648))), (.e (.o2 .ieq (.o2 .add qwl94 (.il 2)) qwl107)), (.e (.o2 .ieq qwl75 (.uf 81 qwl105))), (.t (.o2 .tcat qwl93 qwl121) qwl106)]
abbrev qwl123 : List Ob := ((.e (.o2 .lt (.v 2022) (.uf 78 (.o2 .cel (.v 7112) (.il 0))))) : Ob) :: ((.e (.o2 .le qwl95 (.il 2147483648))) : Ob) :: ((.e (.o2 .ieq qwl113 (.il 1))) : Ob) :: ((.e (.o2 .lt qwl113 (.il 2))) : Ob) :: ((.e (.o2 .le (.il 0) qwl113)) : Ob) :: ((.e (.o2 .le qwl113 (.il 9223372036854775807))) : Ob) :: ((.e (.o2 .le (.il (-9223372036854775808)) qwl113)) : Ob) :: ((.e (.o2 .le qwl94 (.il 2147483648))) : Ob) :: qwl122
abbrev qwl124 : E := .o2 .ieq qwl78 (.il 1)
abbrev qwl125 : Facts := ((qwl79, false) : E × Bool) :: qwl85
abbrev qwl126 : Facts := ((qwl124, true) : E × Bool) :: qwl125
abbrev qwl127 : Facts := ((qwl72, false) : E × Bool) :: qwl126
abbrev qwl128 : Facts := ((qwl124, false) : E × Bool) :: qwl125
abbrev qwl129 : Facts := ((qwl72, false) : E × Bool) :: qwl128
abbrev qwl130 : Facts := ((qwl80, false) : E × Bool) :: qwl84
abbrev qwl131 : List Ob := [(.e (.o2 .lt (.v 2022) (.uf 78 (.o2 .cel (.v 7112) (.il 0))))), (.e (.o2 .le qwl94 (.il 2147483648))), (.t qwl91 qwl102), (.e (.o2 .ieq (.uf 81 qwl73) (.o2 .add (.uf 81 qwl73) (.il 0)))), (.e (.o2 .ieq qwl104 (.o1 .tlen qwl102))), (.e (.o2 .le qwl104 (.il 10010))), (.e (.o2 .le qwl103 (.il 2147483648))), (.e (.o2 .ieq qwl95 qwl107)), (.e (.o2 .ieq qwl75 (.uf 81 qwl105))), (.t (.o2 .tcat qwl93 qwl109) qwl106)]
abbrev qwl132 : Facts := ((qwl72, false) : E × Bool) :: qwl130
abbrev qwl133 : List Ob := [(.e (.o2 .lt (.v 2022) (.uf 78 (.o2 .cel (.v 7112) (.il 0))))), (.e (.o2 .le qwl94 (.il 2147483648))), (.t qwl91 qwl102), (.e (.o2 .ieq (.uf 81 qwl73) (.o2 .add (.uf 81 qwl73) (.il 0)))), (.e (.o2 .ieq qwl104 (.o1 .tlen qwl102))), (.e (.o2 .le qwl104 (.il 10010))), (.e (.o2 .le qwl103 (.il 2147483648))), (.e (.o2 .ieq qwl95 qwl107)), (.e (.o2 .ieq qwl75 (.uf 81 qwl105))), (.t (.o2 .tcat qwl93 qwl116) qwl106)]
abbrev qwl134 : List Ob := [(.e (.o2 .lt (.v 2022) (.uf 78 (.o2 .cel (.v 7112) (.il 0))))), (.e (.o2 .le qwl94 (.il 2147483648))), (.e (.o2 .ieq qwl113 (.il 1))), (.e (.o2 .lt qwl113 (.il 2))), (.e (.o2 .le (.il 0) qwl113)), (.e (.o2 .le qwl113 (.il 9223372036854775807))), (.e (.o2 .le (.il (-9223372036854775808)) qwl113)), (.t qwl91 qwl102), (.e (.o2 .ieq (.uf 81 qwl73) (.o2 .add (.uf 81 qwl73) (.il 0)))), (.e (.o2 .ieq qwl104 (.o1 .tlen qwl102))), (.e (.o2 .le qwl104 (.il 10010))), (.e (.o2 .le qwl103 (.il 2147483648))), (.e (.o2 .ieq qwl95 qwl107)), (.e (.o2 .ieq qwl75 (.uf 81 qwl105))), (.t (.o2 .tcat qwl93 qwl120) qwl106)]
abbrev qwl135 : Facts := (((.o2 (.cell 3) (.v 7112) (.v 2022)), false) : E × Bool) :: qwl83
abbrev qwl136 : Facts := ((qwl72, false) : E × Bool) :: qwl135
abbrev qwl137 : Facts := ((qwl81, false) : E × Bool) :: qwl82
abbrev qwl138 : Facts := (((.o2 (.cell 3) (.v 7112) (.v 2022)), true) : E × Bool) :: qwl137
abbrev qwl139 : Facts := ((qwl80, true) : E × Bool) :: qwl138
abbrev qwl140 : Facts := ((qwl79, true) : E × Bool) :: qwl139
abbrev qwl141 : E := .uf 85 (.o2 .cel qwl90 qwl92)
abbrev qwl142 : E := .o1 .tlen qwl141
abbrev qwl143 : E := .o2 .add qwl142 (.il 1)
abbrev qwl144 : E := .uf 85 (.o2 .cel qwl90 qwl101)
abbrev qwl145 : E := .o1 .tlen qwl144
abbrev qwl146 : List Ob := [(.e (.o2 .le (.o2 .add (.o1 .size qwl99) (.o1 .size (.uf 74 qwl97))) (.il 9223372036854775807))), (.e (.o2 .le qwl98 (.il 255))), (.e (.o2 .le (.il 0) qwl98)), (.e (.o2 .le qwl98 (.il 9223372036854775807))), (.e (.o2 .le (.il (-9223372036854775808)) qwl98)), (.e (.o2 .seq (.sl []) (.uf 72 qwl100))), (.e (.o2 .ieq qwl96 (.uf 73 qwl100))), (.e (.o2 .le qwl96 (.il 1000000000000000))), (.e (.o2 .le qwl96 (.il 9223372036854775807))), (.e (.o2 .lt qwl76 (.o1 .tlen (.v 7111)))), (.e (.o2 .le qwl76 (.il 9223372036854775807))), (.e (.o2 .ieq (.il 0) (.o2 (.cell 11) qwl144 (.il 0)))), (.e (.o2 .ieq (.il 0) (.o2 (.cell 10) qwl144 (.il 0)))), (.e (.o2 .beq (.bl false) (.o2 (.cell 9) qwl144 (.il 0)))), (.e (.o2 .beq (.bl false) (.o2 (.cell 8) qwl144 (.il 0)))), (.e (.o2 .seq (.sl []) (.o2 (.cell 7) qwl144 (.il 0)))), (.t (.il 0) (.o2 (.cell 6) qwl144 (.il 0))), (.e (.o2 .seq (.sl []) (.o2 (.cell 5) qwl144 (.il 0)))), (.e (.o2 .seq (.sl []) (.o2 (.cell 4) qwl144 (.il 0)))), (.e (.o2 .seq (.sl []) (.o2 (.cell 3) qwl144 (.il 0)))), (.e (.o2 .seq (.sl []) (.o2 (.cell 2) qwl144 (.il 0)))), (.e (.o2 .ieq (.il 0) (.o2 (.cell 1) qwl144 (.il 0)))), (.e (.o2 .ieq (.il 1) (.o2 (.cell 0) qwl144 (.il 0)))), (.e (.o2 .ieq qwl145 (.il 1))), (.e (.o2 .ieq (.uf 81 qwl73) (.o2 .add (.uf 81 qwl73) (.il 0)))), (.e (.o2 .ieq (.il 1) qwl145)), (.e (.o2 .ieq (.o2 .add qwl142 (.il 2)) qwl107)), (.e (.o2 .ieq qwl75 (.uf 81 qwl105))), (.t (.o2 .tcat qwl141 qwl110) qwl106)]
abbrev qwl147 : List Ob := ((.e (.o2 .lt (.v 2022) (.uf 78 (.o2 .cel (.v 7112) (.il 0))))) : Ob) :: ((.e (.o2 .le qwl143 (.il 2147483648))) : Ob) :: ((.e (.o2 .le qwl142 (.il 2147483648))) : Ob) :: qwl146
abbrev qwl148 : Facts := ((qwl72, false) : E × Bool) :: qwl140
abbrev qwl149 : List Ob := [(.e (.o2 .le (.o2 .add (.o1 .size qwl99) (.o1 .size (.uf 74 qwl97))) (.il 9223372036854775807))), (.e (.o2 .le qwl98 (.il 255))), (.e (.o2 .le (.il 0) qwl98)), (.e (.o2 .le qwl98 (.il 9223372036854775807))), (.e (.o2 .le (.il (-9223372036854775808)) qwl98)), (.e (.o2 .seq (.sl []) (.uf 72 qwl100))), (.e (.o2 .ieq qwl96 (.uf 73 qwl100))), (.e (.o2 .le qwl96 (.il 1000000000000000))), (.e (.o2 .le qwl96 (.il 9223372036854775807))), (.e (.o2 .lt qwl76 (.o1 .tlen (.v 7111)))), (.e (.o2 .le qwl76 (.il 9223372036854775807))), (.e (.o2 .ieq (.il 0) (.o2 (.cell 11) qwl144 (.il 0)))), (.e (.o2 .ieq (.il 0) (.o2 (.cell 10) qwl144 (.il 0)))), (.e (.o2 .beq (.bl false) (.o2 (.cell 9) qwl144 (.il 0)))), (.e (.o2 .beq (.bl false) (.o2 (.cell 8) qwl144 (.il 0)))), (.e (.o2 .seq (.sl []) (.o2 (.cell 7) qwl144 (.il 0)))), (.t (.il 0) (.o2 (.cell 6) qwl144 (.il 0))), (.e (.o2 .seq (.sl []) (.o2 (.cell 5) qwl144 (.il 0)))), (.e (.o2 .seq (.sl []) (.o2 (.cell 4) qwl144 (.il 0)))), (.e (.o2 .seq (.sl []) (.o2 (.cell 3) qwl144 (.il 0)))), (.e (.o2 .seq (.sl []) (.o2 (.cell 2) qwl144 (.il 0)))), (.e (.o2 .ieq (.il 0) (.o2 (.cell 1) qwl144 (.il 0)))), (.e (.o2 .ieq (.il 1) (.o2 (.cell 0) qwl144 (.il 0)))), (.e (.o2 .ieq qwl145 (.il 1))), (.e (.o2 .ieq (.uf 81 qwl73) (.o2 .add (.uf 81 qwl73) (.il 0)))), (.e (.o2 .ieq (.il 1) qwl145)), (.e (.o2 .ieq (.o2 .add qwl142 (.il 2)) qwl107)), (.e (.o2 .ieq qwl75 (.uf 81 qwl105))), (.t (.o2 .tcat qwl141 qwl117) qwl106)]
abbrev qwl150 : List Ob := ((.e (.o2 .lt (.v 2022) (.uf 78 (.o2 .cel (.v 7112) (.il 0))))) : Ob) :: ((.e (.o2 .le qwl143 (.il 2147483648))) : Ob) :: ((.e (.o2 .le qwl142 (.il 2147483648))) : Ob) :: qwl149
abbrev qwl151 : List Ob := [(.e (.o2 .le (.o2 .add (.o1 .size qwl99) (.o1 .size (.uf 74 qwl97))) (.il 9223372036854775807))), (.e (.o2 .le qwl98 (.il 255))), (.e (.o2 .le (.il 0) qwl98)), (.e (.o2 .le qwl98 (.il 9223372036854775807))), (.e (.o2 .le (.il (-9223372036854775808)) qwl98)), (.e (.o2 .seq (.sl []) (.uf 72 qwl100))), (.e (.o2 .ieq qwl96 (.uf 73 qwl100))), (.e (.o2 .le qwl96 (.il 1000000000000000))), (.e (.o2 .le qwl96 (.il 9223372036854775807))), (.e (.o2 .lt qwl76 (.o1 .tlen (.v 7111)))), (.e (.o2 .le qwl76 (.il 9223372036854775807))), (.e (.o2 .ieq (.il 0) (.o2 (.cell 11) qwl144 (.il 0)))), (.e (.o2 .ieq (.il 0) (.o2 (.cell 10) qwl144 (.il 0)))), (.e (.o2 .beq (.bl false) (.o2 (.cell 9) qwl144 (.il 0)))), (.e (.o2 .beq (.bl false) (.o2 (.cell 8) qwl144 (.il 0)))), (.e (.o2 .seq (.sl []) (.o2 (.cell 7) qwl144 (.il 0)))), (.t (.il 0) (.o2 (.cell 6) qwl144 (.il 0))), (.e (.o2 .seq (.sl []) (.o2 (.cell 5) qwl144 (.il 0)))), (.e (.o2 .seq (.sl []) (.o2 (.cell 4) qwl144 (.il 0)))), (.e (.o2 .seq (.sl []) (.o2 (.cell 3) qwl144 (.il 0)))), (.e (.o2 .seq (.sl []) (.o2 (.cell 2) qwl144 (.il 0)))), (.e (.o2 .ieq (.il 0) (.o2 (.cell 1) qwl144 (.il 0)))), (.e (.o2 .ieq (.il 1) (.o2 (.cell 0) qwl144 (.il 0)))), (.e (.o2 .ieq qwl145 (.il 1))), (.e (.o2 .ieq (.uf 81 qwl73) (.o2 .add (.uf 81 qwl73) (.il 0)))), (.e (.o2 .ieq (.il 1) qwl145)), (.e (.o2 .ieq (.o2 .add qwl142 (.il 2)) qwl107)), (.e (.o2 .ieq qwl75 (.uf 81 qwl105))), (.t (.o2 .tcat qwl141 qwl121) qwl106)]
abbrev qwl152 : List Ob := ((.e (.o2 .lt (.v 2022) (.uf 78 (.o2 .cel (.v 7112) (.il 0))))) : Ob) :: ((.e (.o2 .le qwl143 (.il 2147483648))) : Ob) :: ((.e (.o2 .ieq qwl113 (.il 1))) : Ob) :: ((.e (.o2 .lt qwl113 (.il 2))) : Ob) :: ((.e (.o2 .le (.il 0) qwl113)) : Ob) :: ((.e (.o2 .le qwl113 (.il 9223372036854775807))) : Ob) :: ((.e (.o2 .le (.il (-9223372036854775808)) qwl113)) : Ob) :: ((.e (.o2 .le qwl142 (.il 2147483648))) : Ob) :: qwl151
abbrev qwl153 : Facts := ((qwl79, false) : E × Bool) :: qwl139
abbrev qwl154 : Facts := ((qwl124, true) : E × Bool) :: qwl153
abbrev qwl155 : Facts := ((qwl72, false) : E × Bool) :: qwl154
abbrev qwl156 : Facts := ((qwl124, false) : E × Bool) :: qwl153
abbrev qwl157 : Facts := ((qwl72, false) : E × Bool) :: qwl156
abbrev qwl158 : Facts := ((qwl80, false) : E × Bool) :: qwl138
abbrev qwl159 : List Ob := [(.e (.o2 .lt (.v 2022) (.uf 78 (.o2 .cel (.v 7112) (.il 0))))), (.e (.o2 .le qwl142 (.il 2147483648))), (.e (.o2 .ieq (.il 0) (.o2 (.cell 11) qwl144 (.il 0)))), (.e (.o2 .ieq (.il 0) (.o2 (.cell 10) qwl144 (.il 0)))), (.e (.o2 .beq (.bl false) (.o2 (.cell 9) qwl144 (.il 0)))), (.e (.o2 .beq (.bl false) (.o2 (.cell 8) qwl144 (.il 0)))), (.e (.o2 .seq (.sl []) (.o2 (.cell 7) qwl144 (.il 0)))), (.t (.il 0) (.o2 (.cell 6) qwl144 (.il 0))), (.e (.o2 .seq (.sl []) (.o2 (.cell 5) qwl144 (.il 0)))), (.e (.o2 .seq (.sl []) (.o2 (.cell 4) qwl144 (.il 0)))), (.e (.o2 .seq (.sl []) (.o2 (.cell 3) qwl144 (.il 0)))), (.e (.o2 .seq (.sl []) (.o2 (.cell 2) qwl144 (.il 0)))), (.e (.o2 .ieq (.il 0) (.o2 (.cell 1) qwl144 (.il 0)))), (.e (.o2 .ieq (.il 1) (.o2 (.cell 0) qwl144 (.il 0)))), (.e (.o2 .ieq qwl145 (.il 1))), (.e (.o2 .ieq (.uf 81 qwl73) (.o2 .add (.uf 81 qwl73) (.il 0)))), (.e (.o2 .ieq (.il 1) qwl145)), (.e (.o2 .ieq qwl143 qwl107)), (.e (.o2 .ieq qwl75 (.uf 81 qwl105))), (.t (.o2 .tcat qwl141 qwl109) qwl106)]
abbrev qwl160 : Facts := ((qwl72, false) : E × Bool) :: qwl158
abbrev qwl161 : List Ob := [(.e (.o2 .lt (.v 2022) (.uf 78 (.o2 .cel (.v 7112) (.il 0))))), (.e (.o2 .le qwl142 (.il 2147483648))), (.e (.o2 .ieq (.il 0) (.o2 (.cell 11) qwl144 (.il 0)))), (.e (.o2 .ieq (.il 0) (.o2 (.cell 10) qwl144 (.il 0)))), (.e (.o2 .beq (.bl false) (.o2 (.cell 9) qwl144 (.il 0)))), (.e (.o2 .beq (.bl false) (.o2 (.cell 8) qwl144 (.il 0)))), (.e (.o2 .seq (.sl []) (.o2 (.cell 7) qwl144 (.il 0)))), (.t (.il 0) (.o2 (.cell 6) qwl144 (.il 0))), (.e (.o2 .seq (.sl []) (.o2 (.cell 5) qwl144 (.il 0)))), (.e (.o2 .seq (.sl []) (.o2 (.cell 4) qwl144 (.il 0)))), (.e (.o2 .seq (.sl []) (.o2 (.cell 3) qwl144 (.il 0)))), (.e (.o2 .seq (.sl []) (.o2 (.cell 2) qwl144 (.il 0)))), (.e (.o2 .ieq (.il 0) (.o2 (.cell 1) qwl144 (.il 0)))), (.e (.o2 .ieq (.il 1) (.o2 (.cell 0) qwl144 (.il 0)))), (.e (.o2 .ieq qwl145 (.il 1))), (.e (.o2 .ieq (.uf 81 qwl73) (.o2 .add (.uf 81 qwl73) (.il 0)))), (.e (.o2 .ieq (.il 1) qwl145)), (.e (.o2 .ieq qwl143 qwl107)), (.e (.o2 .ieq qwl75 (.uf 81 qwl105))), (.t (.o2 .tcat qwl141 qwl116) qwl106)]
abbrev qwl162 : List Ob := [(.e (.o2 .lt (.v 2022) (.uf 78 (.o2 .cel (.v 7112) (.il 0))))), (.e (.o2 .le qwl142 (.il 2147483648))), (.e (.o2 .ieq qwl113 (.il 1))), (.e (.o2 .lt qwl113 (.il 2))), (.e (.o2 .le (.il 0) qwl113)), (.e (.o2 .le qwl113 (.il 9223372036854775807))), (.e (.o2 .le (.il (-9223372036854775808)) qwl113)), (.e (.o2 .ieq (.il 0) (.o2 (.cell 11) qwl144 (.il 0)))), (.e (.o2 .ieq (.il 0) (.o2 (.cell 10) qwl144 (.il 0)))), (.e (.o2 .beq (.bl false) (.o2 (.cell 9) qwl144 (.il 0)))), (.e (.o2 .beq (.bl false) (.o2 (.cell 8) qwl144 (.il 0)))), (.e (.o2 .seq (.sl []) (.o2 (.cell 7) qwl144 (.il 0)))), (.t (.il 0) (.o2 (.cell 6) qwl144 (.il 0))), (.e (.o2 .seq (.sl []) (.o2 (.cell 5) qwl144 (.il 0)))), (.e (.o2 .seq (.sl []) (.o2 (.cell 4) qwl144 (.il 0)))), (.e (.o2 .seq (.sl []) (.o2 (.cell 3) qwl144 (.il 0)))), (.e (.o2 .seq (.sl []) (.o2 (.cell 2) qwl144 (.il 0)))), (.e (.o2 .ieq (.il 0) (.o2 (.cell 1) qwl144 (.il 0)))), (.e (.o2 .ieq (.il 1) (.o2 (.cell 0) qwl144 (.il 0)))), (.e (.o2 .ieq qwl145 (.il 1))), (.e (.o2 .ieq (.uf 81 qwl73) (.o2 .add (.uf 81 qwl73) (.il 0)))), (.e (.o2 .ieq (.il 1) qwl145)), (.e (.o2 .ieq qwl143 qwl107)), (.e (.o2 .ieq qwl75 (.uf 81 qwl105))), (.t (.o2 .tcat qwl141 qwl120) qwl106)]
abbrev qwl163 : Facts := (((.o2 (.cell 3) (.v 7112) (.v 2022)), false) : E × Bool) :: qwl137
abbrev qwl164 : Facts := ((qwl72, false) : E × Bool) :: qwl163
abbrev qwl165 : Facts := [(qwl58, false)]
def obYL0 : List (Facts × List Ob) :=
  [(qwl60,
    [(.e qwl61)]),
   (qwl64,
    [(.e qwl61)]),
   (qwl67,
    [(.e qwl61)]),
   (qwl70,
    [(.e qwl61)]),
   ((((qwl72, true) : E × Bool) :: qwl86),
    qwl112),
   ((((qwl114, true) : E × Bool) :: qwl115),
    qwl119),
   ((((qwl114, false) : E × Bool) :: qwl115),
    qwl123),
   ((((qwl72, true) : E × Bool) :: qwl126),
    qwl112),
   ((((qwl114, true) : E × Bool) :: qwl127),
    qwl119),
   ((((qwl114, false) : E × Bool) :: qwl127),
    qwl123),
   ((((qwl72, true) : E × Bool) :: qwl128),
    (((.e (.o2 .lt (.v 2022) (.uf 78 (.o2 .cel (.v 7112) (.il 0))))) : Ob) :: ((.e (.o2 .le qwl95 (.il 2147483648))) : Ob) :: ((.e (.o2 .le qwl94 (.il 2147483648))) : Ob) :: ((.e (.o2 .ieq qwl78 (.il 2))) : Ob) :: ((.e (.o2 .lt qwl78 (.il 3))) : Ob) :: ((.e (.o2 .le (.il 0) qwl78)) : Ob) :: qwl111)),
   ((((qwl114, true) : E × Bool) :: qwl129),
    (((.e (.o2 .lt (.v 2022) (.uf 78 (.o2 .cel (.v 7112) (.il 0))))) : Ob) :: ((.e (.o2 .le qwl95 (.il 2147483648))) : Ob) :: ((.e (.o2 .le qwl94 (.il 2147483648))) : Ob) :: ((.e (.o2 .ieq qwl78 (.il 2))) : Ob) :: ((.e (.o2 .lt qwl78 (.il 3))) : Ob) :: ((.e (.o2 .le (.il 0) qwl78)) : Ob) :: qwl118)),
   ((((qwl114, false) : E × Bool) :: qwl129),
    (((.e (.o2 .lt (.v 2022) (.uf 78 (.o2 .cel (.v 7112) (.il 0))))) : Ob) :: ((.e (.o2 .le qwl95 (.il 2147483648))) : Ob) :: ((.e (.o2 .ieq qwl113 (.il 1))) : Ob) :: ((.e (.o2 .lt qwl113 (.il 2))) : Ob) :: ((.e (.o2 .le (.il 0) qwl113)) : Ob) :: ((.e (.o2 .le qwl113 (.il 9223372036854775807))) : Ob) :: ((.e (.o2 .le (.il (-9223372036854775808)) qwl113)) : Ob) :: ((.e (.o2 .le qwl94 (.il 2147483648))) : Ob) :: ((.e (.o2 .ieq qwl78 (.il 2))) : Ob) :: ((.e (.o2 .lt qwl78 (.il 3))) : Ob) :: ((.e (.o2 .le (.il 0) qwl78)) : Ob) :: qwl122)),
   ((((qwl72, true) : E × Bool) :: qwl130),
    qwl131),
   ((((qwl114, true) : E × Bool) :: qwl132),
    qwl133),
   ((((qwl114, false) : E × Bool) :: qwl132),
    qwl134),
   ((((qwl72, true) : E × Bool) :: qwl135),
    qwl131),
   ((((qwl114, true) : E × Bool) :: qwl136),
    qwl133),
   ((((qwl114, false) : E × Bool) :: qwl136),
    qwl134),
   ((((qwl72, true) : E × Bool) :: qwl140),
    qwl147),
   ((((qwl114, true) : E × Bool) :: qwl148),
    qwl150),
   ((((qwl114, false) : E × Bool) :: qwl148),
    qwl152),
   ((((qwl72, true) : E × Bool) :: qwl154),
    qwl147),
   ((((qwl114, true) : E × Bool) :: qwl155),
    qwl150),
   ((((qwl114, false) : E × Bool) :: qwl155),
    qwl152),
   ((((qwl72, true) : E × Bool) :: qwl156),
    (((.e (.o2 .lt (.v 2022) (.uf 78 (.o2 .cel (.v 7112) (.il 0))))) : Ob) :: ((.e (.o2 .le qwl143 (.il 2147483648))) : Ob) :: ((.e (.o2 .le qwl142 (.il 2147483648))) : Ob) :: ((.e (.o2 .ieq qwl78 (.il 2))) : Ob) :: ((.e (.o2 .lt qwl78 (.il 3))) : Ob) :: ((.e (.o2 .le (.il 0) qwl78)) : Ob) :: qwl146)),
   ((((qwl114, true) : E × Bool) :: qwl157),
    (((.e (.o2 .lt (.v 2022) (.uf 78 (.o2 .cel (.v 7112) (.il 0))))) : Ob) :: ((.e (.o2 .le qwl143 (.il 2147483648))) : Ob) :: ((.e (.o2 .le qwl142 (.il 2147483648))) : Ob) :: ((.e (.o2 .ieq qwl78 (.il 2))) : Ob) :: ((.e (.o2 .lt qwl78 (.il 3))) : Ob) :: ((.e (.o2 .le (.il 0) qwl78)) : Ob) :: qwl149)),
   ((((qwl114, false) : E × Bool) :: qwl157),
    (((.e (.o2 .lt (.v 2022) (.uf 78 (.o2 .cel (.v 7112) (.il 0))))) : Ob) :: ((.e (.o2 .le qwl143 (.il 2147483648))) : Ob) :: ((.e (.o2 .ieq qwl113 (.il 1))) : Ob) :: ((.e (.o2 .lt qwl113 (.il 2))) : Ob) :: ((.e (.o2 .le (.il 0) qwl113)) : Ob) :: ((.e (.o2 .le qwl113 (.il 9223372036854775807))) : Ob) :: ((.e (.o2 .le (.il (-9223372036854775808)) qwl113)) : Ob) :: ((.e (.o2 .le qwl142 (.il 2147483648))) : Ob) :: ((.e (.o2 .ieq qwl78 (.il 2))) : Ob) :: ((.e (.o2 .lt qwl78 (.il 3))) : Ob) :: ((.e (.o2 .le (.il 0) qwl78)) : Ob) :: qwl151)),
   ((((qwl72, true) : E × Bool) :: qwl158),
    qwl159),
   ((((qwl114, true) : E × Bool) :: qwl160),
    qwl161),
   ((((qwl114, false) : E × Bool) :: qwl160),
    qwl162),
   ((((qwl72, true) : E × Bool) :: qwl163),
    qwl159),
   ((((qwl114, true) : E × Bool) :: qwl164),
    qwl161),
   ((((qwl114, false) : E × Bool) :: qwl164),
    qwl162),
   (qwl165,
    [(.e (.o1 .not qwl61)), (.e (.o2 .ieq (.uf 81 qwl73) (.il 0)))])]
abbrev qwl166 : Facts := (((.o2 (.cell 3) (.v 7112) (.v 2022)), true) : E × Bool) :: qwl82
abbrev qwl167 : Facts := ((qwl80, true) : E × Bool) :: qwl166
abbrev qwl168 : Facts := ((qwl79, true) : E × Bool) :: qwl167
abbrev qwl169 : E := .uf 84 (.o2 .cel (.uf 80 qwl73) qwl87)
abbrev qwl170 : E := .o2 .tcat qwl169 qwl90
abbrev qwl171 : E := .uf 85 (.o2 .cel qwl170 qwl92)
abbrev qwl172 : E := .o1 .tlen qwl171
abbrev qwl173 : E := .o2 .add qwl172 (.il 1)
abbrev qwl174 : E := .uf 85 (.o2 .cel qwl170 qwl101)
abbrev qwl175 : E := .o1 .tlen qwl169
abbrev qwl176 : E := .o2 .add qwl175 (.il 1)
abbrev qwl177 : E := .uf 84 (.o2 .cel (.uf 80 qwl73) (.o2 .cel (.o2 (.cell 1) (.v 7112) (.v 2022)) (.o2 .cel (.il 0) (.il 0))))
abbrev qwl178 : E := .o1 .tlen (.uf 80 qwl73)
abbrev qwl179 : List Ob := [(.e (.o2 .le (.o2 .add (.o1 .size qwl99) (.o1 .size (.uf 74 qwl97))) (.il 9223372036854775807))), (.e (.o2 .le qwl98 (.il 255))), (.e (.o2 .le (.il 0) qwl98)), (.e (.o2 .le qwl98 (.il 9223372036854775807))), (.e (.o2 .le (.il (-9223372036854775808)) qwl98)), (.e (.o2 .seq (.sl []) (.uf 72 qwl100))), (.e (.o2 .ieq qwl96 (.uf 73 qwl100))), (.e (.o2 .le qwl96 (.il 1000000000000000))), (.e (.o2 .le qwl96 (.il 9223372036854775807))), (.e (.o2 .lt qwl76 (.o1 .tlen (.v 7111)))), (.e (.o2 .le qwl76 (.il 9223372036854775807))), (.t qwl170 qwl174), (.e (.o2 .ieq (.uf 81 qwl73) (.o2 .add (.uf 81 qwl73) (.il 0)))), (.e (.o2 .ieq qwl176 (.o1 .tlen qwl174))), (.e (.o2 .le qwl176 (.il 10010))), (.e (.o2 .le qwl175 (.il 2147483648))), (.t (.uf 80 qwl73) qwl177), (.e (.o2 .ieq qwl178 (.o1 .tlen qwl177))), (.e (.o2 .ieq (.o2 .add qwl172 (.il 2)) qwl107)), (.e (.o2 .ieq qwl75 (.uf 81 qwl105))), (.t (.o2 .tcat qwl171 qwl110) qwl106)]
abbrev qwl180 : List Ob := ((.e (.o2 .lt (.v 2022) (.uf 78 (.o2 .cel (.v 7112) (.il 0))))) : Ob) :: ((.e (.o2 .le qwl173 (.il 2147483648))) : Ob) :: ((.e (.o2 .le qwl172 (.il 2147483648))) : Ob) :: qwl179
abbrev qwl181 : Facts := ((qwl72, false) : E × Bool) :: qwl168
abbrev qwl182 : List Ob := [(.e (.o2 .le (.o2 .add (.o1 .size qwl99) (.o1 .size (.uf 74 qwl97))) (.il 9223372036854775807))), (.e (.o2 .le qwl98 (.il 255))), (.e (.o2 .le (.il 0) qwl98)), (.e (.o2 .le qwl98 (.il 9223372036854775807))), (.e (.o2 .le (.il (-9223372036854775808)) qwl98)), (.e (.o2 .seq (.sl []) (.uf 72 qwl100))), (.e (.o2 .ieq qwl96 (.uf 73 qwl100))), (.e (.o2 .le qwl96 (.il 1000000000000000))), (.e (.o2 .le qwl96 (.il 9223372036854775807))), (.e (.o2 .lt qwl76 (.o1 .tlen (.v 7111)))), (.e (.o2 .le qwl76 (.il 9223372036854775807))), (.t qwl170 qwl174), (.e (.o2 .ieq (.uf 81 qwl73) (.o2 .add (.uf 81 qwl73) (.il 0)))), (.e (.o2 .ieq qwl176 (.o1 .tlen qwl174))), (.e (.o2 .le qwl176 (.il 10010))), (.e (.o2 .le qwl175 (.il 2147483648))), (.t (.uf 80 qwl73) qwl177), (.e (.o2 .ieq qwl178 (.o1 .tlen qwl177))), (.e (.o2 .ieq (.o2 .add qwl172 (.il 2)) qwl107)), (.e (.o2 .ieq qwl75 (.uf 81 qwl105))), (.t (.o2 .tcat qwl171 qwl117) qwl106)]
abbrev qwl183 : List Ob := ((.e (.o2 .lt (.v 2022) (.uf 78 (.o2 .cel (.v 7112) (.il 0))))) : Ob) :: ((.e (.o2 .le qwl173 (.il 2147483648))) : Ob) :: ((.e (.o2 .le qwl172 (.il 2147483648))) : Ob) :: qwl182
abbrev qwl184 : List Ob := [(.e (.o2 .le (.o2 .add (.o1 .size qwl99) (.o1 .size (.uf 74 qwl97))) (.il 9223372036854775807))), (.e (.o2 .le qwl98 (.il 255))), (.e (.o2 .le (.il 0) qwl98)), (.e (.o2 .le qwl98 (.il 9223372036854775807))), (.e (.o2 .le (.il (-9223372036854775808)) qwl98)), (.e (.o2 .seq (.sl []) (.uf 72 qwl100))), (.e (.o2 .ieq qwl96 (.uf 73 qwl100))), (.e (.o2 .le qwl96 (.il 1000000000000000))), (.e (.o2 .le qwl96 (.il 9223372036854775807))), (.e (.o2 .lt qwl76 (.o1 .tlen (.v 7111)))), (.e (.o2 .le qwl76 (.il 9223372036854775807))), (.t qwl170 qwl174), (.e (.o2 .ieq (.uf 81 qwl73) (.o2 .add (.uf 81 qwl73) (.il 0)))), (.e (.o2 .ieq qwl176 (.o1 .tlen qwl174))), (.e (.o2 .le qwl176 (.il 10010))), (.e (.o2 .le qwl175 (.il 2147483648))), (.t (.uf 80 qwl73) qwl177), (.e (.o2 .ieq qwl178 (.o1 .tlen qwl177))), (.e (.o2 .ieq (.o2 .add qwl172 (.il 2)) qwl107)), (.e (.o2 .ieq qwl75 (.uf 81 qwl105))), (.t (.o2 .tcat qwl171 qwl121) qwl106)]
abbrev qwl185 : List Ob := ((.e (.o2 .lt (.v 2022) (.uf 78 (.o2 .cel (.v 7112) (.il 0))))) : Ob) :: ((.e (.o2 .le qwl173 (.il 2147483648))) : Ob) :: ((.e (.o2 .ieq qwl113 (.il 1))) : Ob) :: ((.e (.o2 .lt qwl113 (.il 2))) : Ob) :: ((.e (.o2 .le (.il 0) qwl113)) : Ob) :: ((.e (.o2 .le qwl113 (.il 9223372036854775807))) : Ob) :: ((.e (.o2 .le (.il (-9223372036854775808)) qwl113)) : Ob) :: ((.e (.o2 .le qwl172 (.il 2147483648))) : Ob) :: qwl184
abbrev qwl186 : Facts := ((qwl79, false) : E × Bool) :: qwl167
abbrev qwl187 : Facts := ((qwl124, true) : E × Bool) :: qwl186
abbrev qwl188 : Facts := ((qwl72, false) : E × Bool) :: qwl187
abbrev qwl189 : Facts := ((qwl124, false) : E × Bool) :: qwl186
abbrev qwl190 : Facts := ((qwl72, false) : E × Bool) :: qwl189
abbrev qwl191 : Facts := ((qwl80, false) : E × Bool) :: qwl166
abbrev qwl192 : List Ob := [(.e (.o2 .lt (.v 2022) (.uf 78 (.o2 .cel (.v 7112) (.il 0))))), (.e (.o2 .le qwl172 (.il 2147483648))), (.t qwl170 qwl174), (.e (.o2 .ieq (.uf 81 qwl73) (.o2 .add (.uf 81 qwl73) (.il 0)))), (.e (.o2 .ieq qwl176 (.o1 .tlen qwl174))), (.e (.o2 .le qwl176 (.il 10010))), (.e (.o2 .le qwl175 (.il 2147483648))), (.t (.uf 80 qwl73) qwl177), (.e (.o2 .ieq qwl178 (.o1 .tlen qwl177))), (.e (.o2 .ieq qwl173 qwl107)), (.e (.o2 .ieq qwl75 (.uf 81 qwl105))), (.t (.o2 .tcat qwl171 qwl109) qwl106)]
abbrev qwl193 : Facts := ((qwl72, false) : E × Bool) :: qwl191
abbrev qwl194 : List Ob := [(.e (.o2 .lt (.v 2022) (.uf 78 (.o2 .cel (.v 7112) (.il 0))))), (.e (.o2 .le qwl172 (.il 2147483648))), (.t qwl170 qwl174), (.e (.o2 .ieq (.uf 81 qwl73) (.o2 .add (.uf 81 qwl73) (.il 0)))), (.e (.o2 .ieq qwl176 (.o1 .tlen qwl174))), (.e (.o2 .le qwl176 (.il 10010))), (.e (.o2 .le qwl175 (.il 2147483648))), (.t (.uf 80 qwl73) qwl177), (.e (.o2 .ieq qwl178 (.o1 .tlen qwl177))), (.e (.o2 .ieq qwl173 qwl107)), (.e (.o2 .ieq qwl75 (.uf 81 qwl105))), (.t (.o2 .tcat qwl171 qwl116) qwl106)]
abbrev qwl195 : List Ob := [(.e (.o2 .lt (.v 2022) (.uf 78 (.o2 .cel (.v 7112) (.il 0))))), (.e (.o2 .le qwl172 (.il 2147483648))), (.e (.o2 .ieq qwl113 (.il 1))), (.e (.o2 .lt qwl113 (.il 2))), (.e (.o2 .le (.il 0) qwl113)), (.e (.o2 .le qwl113 (.il 9223372036854775807))), (.e (.o2 .le (.il (-9223372036854775808)) qwl113)), (.t qwl170 qwl174), (.e (.o2 .ieq (.uf 81 qwl73) (.o2 .add (.uf 81 qwl73) (.il 0)))), (.e (.o2 .ieq qwl176 (.o1 .tlen qwl174))), (.e (.o2 .le qwl176 (.il 10010))), (.e (.o2 .le qwl175 (.il 2147483648))), (.t (.uf 80 qwl73) qwl177), (.e (.o2 .ieq qwl178 (.o1 .tlen qwl177))), (.e (.o2 .ieq qwl173 qwl107)), (.e (.o2 .ieq qwl75 (.uf 81 qwl105))), (.t (.o2 .tcat qwl171 qwl120) qwl106)]
abbrev qwl196 : Facts := (((.o2 (.cell 3) (.v 7112) (.v 2022)), false) : E × Bool) :: qwl82
abbrev qwl197 : Facts := ((qwl72, false) : E × Bool) :: qwl196
abbrev qwl198 : E := .o2 .cel (.v 7110) (.o2 .cel (.v 7111) (.o2 .cel (.v 7112) (.il 0)))
abbrev qwl199 : E := .uf 82 qwl198
def obYL1 : List (Facts × List Ob) :=
  [(qwl60,
    [(.e qwl61)]),
   (qwl64,
    [(.e qwl61)]),
   (qwl67,
    [(.e qwl61)]),
   (qwl70,
    [(.e qwl61)]),
   ((((qwl72, true) : E × Bool) :: qwl168),
    qwl180),
   ((((qwl114, true) : E × Bool) :: qwl181),
    qwl183),
   ((((qwl114, false) : E × Bool) :: qwl181),
    qwl185),
   ((((qwl72, true) : E × Bool) :: qwl187),
    qwl180),
   ((((qwl114, true) : E × Bool) :: qwl188),
    qwl183),
   ((((qwl114, false) : E × Bool) :: qwl188),
    qwl185),
   ((((qwl72, true) : E × Bool) :: qwl189),
    (((.e (.o2 .lt (.v 2022) (.uf 78 (.o2 .cel (.v 7112) (.il 0))))) : Ob) :: ((.e (.o2 .le qwl173 (.il 2147483648))) : Ob) :: ((.e (.o2 .le qwl172 (.il 2147483648))) : Ob) :: ((.e (.o2 .ieq qwl78 (.il 2))) : Ob) :: ((.e (.o2 .lt qwl78 (.il 3))) : Ob) :: ((.e (.o2 .le (.il 0) qwl78)) : Ob) :: qwl179)),
   ((((qwl114, true) : E × Bool) :: qwl190),
    (((.e (.o2 .lt (.v 2022) (.uf 78 (.o2 .cel (.v 7112) (.il 0))))) : Ob) :: ((.e (.o2 .le qwl173 (.il 2147483648))) : Ob) :: ((.e (.o2 .le qwl172 (.il 2147483648))) : Ob) :: ((.e (.o2 .ieq qwl78 (.il 2))) : Ob) :: ((.e (.o2 .lt qwl78 (.il 3))) : Ob) :: ((.e (.o2 .le (.il 0) qwl78)) : Ob) :: qwl182)),
   ((((qwl114, false) : E × Bool) :: qwl190),
    (((.e (.o2 .lt (.v 2022) (.uf 78 (.o2 .cel (.v 7112) (.il 0))))) : Ob) :: ((.e (.o2 .le qwl173 (.il 2147483648))) : Ob) :: ((.e (.o2 .ieq qwl113 (.il 1))) : Ob) :: ((.e (.o2 .lt qwl113 (.il 2))) : Ob) :: ((.e (.o2 .le (.il 0) qwl113)) : Ob) :: ((.e (.o2 .le qwl113 (.il 9223372036854775807))) : Ob) :: ((.e (.o2 .le (.il (-9223372036854775808)) qwl113)) : Ob) :: ((.e (.o2 .le qwl172 (.il 2147483648))) : Ob) :: ((.e (.o2 .ieq qwl78 (.il 2))) : Ob) :: ((.e (.o2 .lt qwl78 (.il 3))) : Ob) :: ((.e (.o2 .le (.il 0) qwl78)) : Ob) :: qwl184)),
   ((((qwl72, true) : E × Bool) :: qwl191),
    qwl192),
   ((((qwl114, true) : E × Bool) :: qwl193),
    qwl194),
   ((((qwl114, false) : E × Bool) :: qwl193),
    qwl195),
   ((((qwl72, true) : E × Bool) :: qwl196),
    qwl192),
   ((((qwl114, true) : E × Bool) :: qwl197),
    qwl194),
   ((((qwl114, false) : E × Bool) :: qwl197),
    qwl195),
   (qwl165,
    [(.e (.o1 .not qwl61)), (.e (.o2 .ieq qwl178 (.o1 .tlen qwl199))), (.e (.o2 .ieq (.uf 81 qwl73) (.uf 83 qwl198))), (.t (.uf 80 qwl73) qwl199)])]
abbrev qwl200 : E := .o2 (.cell 5) (.v 7142) (.o2 .add (.v 7143) (.v 2025))
abbrev qwl201 : E := .o2 .rem (.o1 .size qwl200) (.il 3)
abbrev qwl202 : E := .o2 .ieq qwl201 (.il 0)
abbrev qwl203 : E := .o2 .lt (.o2 .add (.v 7143) (.v 2025)) (.o1 .tlen (.v 7142))
abbrev qwl204 : Facts := [(qwl203, true)]
abbrev qwl205 : E := .o2 .sub (.o1 .tlen (.v 7142)) (.v 7143)
abbrev qwl206 : E := .o2 .add (.o2 .add (.v 7141) (.il 1)) (.o2 .add (.v 7143) (.v 2025))
abbrev qwl207 : E := .o2 .cel qwl206 (.il 0)
abbrev qwl208 : E := .o2 .add (.il 48) (.uf 75 qwl207)
abbrev qwl209 : E := .o1 .chr qwl208
abbrev qwl210 : E := .uf 74 qwl207
abbrev qwl211 : E := .o2 .cel qwl206 (.o2 .cel (.il 0) (.il 0))
abbrev qwl212 : E := .uf 85 (.o2 .cel (.v 7140) (.o2 .cel (.v 7141) (.o2 .cel (.v 7142) (.o2 .cel (.v 7143) (.o2 .cel (.v 2025) (.il 0))))))
abbrev qwl213 : E := .o1 .tlen qwl212
abbrev qwl214 : E := .uf 85 (.o2 .cel (.v 7140) (.o2 .cel (.v 7141) (.o2 .cel (.v 7142) (.o2 .cel (.v 7143) (.o2 .cel (.o2 .add (.v 2025) (.il 1)) (.il 0))))))
abbrev qwl215 : E := .o2 .cel (.o2 (.cell 0) (.v 7142) (.o2 .add (.v 7143) (.v 2025))) (.o2 .cel (.o2 (.cell 1) (.v 7142) (.o2 .add (.v 7143) (.v 2025))) (.o2 .cel (.o2 (.cell 2) (.v 7142) (.o2 .add (.v 7143) (.v 2025))) (.o2 .cel (.o2 .cat qwl209 qwl210) (.o2 .cel (.o2 (.cell 4) (.v 7142) (.o2 .add (.v 7143) (.v 2025))) (.o2 .cel qwl200 (.o2 .cel (.o2 (.cell 6) (.v 7142) (.o2 .add (.v 7143) (.v 2025))) (.o2 .cel (.o2 (.cell 7) (.v 7142) (.o2 .add (.v 7143) (.v 2025))) qwl51)))))))
abbrev qwl216 : E := .o2 .ieq qwl201 (.il 1)
abbrev qwl217 : Facts := ((qwl202, false) : E × Bool) :: qwl204
abbrev qwl218 : E := .uf 85 (.o2 .cel (.v 7140) (.o2 .cel (.v 7141) (.o2 .cel (.v 7142) (.o2 .cel (.v 7143) (.o2 .cel qwl205 (.il 0))))))
def iKL0 : List (Facts × List Ob) :=
  [((((qwl202, true) : E × Bool) :: qwl204),
    [(.e (.o2 .lt (.v 2025) qwl205)), (.e (.o2 .le (.o2 .add (.o1 .size qwl209) (.o1 .size qwl210)) (.il 9223372036854775807))), (.e (.o2 .le qwl208 (.il 255))), (.e (.o2 .le (.il 0) qwl208)), (.e (.o2 .le qwl208 (.il 9223372036854775807))), (.e (.o2 .le (.il (-9223372036854775808)) qwl208)), (.e (.o2 .seq (.sl []) (.uf 72 qwl211))), (.e (.o2 .ieq qwl206 (.uf 73 qwl211))), (.e (.o2 .ieq (.o2 .add qwl213 (.il 1)) (.o1 .tlen qwl214))), (.e (.o2 .ieq (.o2 .add (.o2 .add (.v 7143) (.v 2025)) (.il 1)) (.o2 .add (.v 7143) (.o2 .add (.v 2025) (.il 1))))), (.t (.o2 .tcat qwl212 (.o2 .cel (.il 3) (.o2 .cel (.il 1) qwl215))) qwl214)]),
   ((((qwl216, true) : E × Bool) :: qwl217),
    [(.e (.o2 .lt (.v 2025) qwl205)), (.e (.o2 .le (.o2 .add (.o1 .size qwl209) (.o1 .size qwl210)) (.il 9223372036854775807))), (.e (.o2 .le qwl208 (.il 255))), (.e (.o2 .le (.il 0) qwl208)), (.e (.o2 .le qwl208 (.il 9223372036854775807))), (.e (.o2 .le (.il (-9223372036854775808)) qwl208)), (.e (.o2 .seq (.sl []) (.uf 72 qwl211))), (.e (.o2 .ieq qwl206 (.uf 73 qwl211))), (.e (.o2 .ieq (.o2 .add qwl213 (.il 1)) (.o1 .tlen qwl214))), (.e (.o2 .ieq (.o2 .add (.o2 .add (.v 7143) (.v 2025)) (.il 1)) (.o2 .add (.v 7143) (.o2 .add (.v 2025) (.il 1))))), (.t (.o2 .tcat qwl212 (.o2 .cel (.il 3) (.o2 .cel (.il 2) qwl215))) qwl214)]),
   ((((qwl216, false) : E × Bool) :: qwl217),
    [(.e (.o2 .lt (.v 2025) qwl205)), (.e (.o2 .ieq qwl201 (.il 2))), (.e (.o2 .lt qwl201 (.il 3))), (.e (.o2 .le (.il 0) qwl201)), (.e (.o2 .le (.o2 .add (.o1 .size qwl209) (.o1 .size qwl210)) (.il 9223372036854775807))), (.e (.o2 .le qwl208 (.il 255))), (.e (.o2 .le (.il 0) qwl208)), (.e (.o2 .le qwl208 (.il 9223372036854775807))), (.e (.o2 .le (.il (-9223372036854775808)) qwl208)), (.e (.o2 .seq (.sl []) (.uf 72 qwl211))), (.e (.o2 .ieq qwl206 (.uf 73 qwl211))), (.e (.o2 .ieq (.o2 .add qwl213 (.il 1)) (.o1 .tlen qwl214))), (.e (.o2 .ieq (.o2 .add (.o2 .add (.v 7143) (.v 2025)) (.il 1)) (.o2 .add (.v 7143) (.o2 .add (.v 2025) (.il 1))))), (.t (.o2 .tcat qwl212 (.o2 .cel (.il 3) (.o2 .cel (.il 3) qwl215))) qwl214)]),
   ([(qwl203, false)],
    [(.e (.o2 .ieq qwl213 (.o1 .tlen qwl218))), (.e (.o2 .ieq (.o2 .add (.v 7143) (.v 2025)) (.o2 .add (.v 7143) qwl205))), (.t qwl212 qwl218)])]
abbrev qwl219 : E := .uf 7 (.o2 .cel (.o2 (.cell 4) (.v 7150) (.v 2026)) (.il 0))
abbrev qwl220 : E := .o2 .le (.o1 .tlen (.o2 (.cell 4) (.v 7150) (.v 2026))) (.il 4)
abbrev qwl221 : E := .o2 .le (.o1 .size (.o2 (.cell 5) (.v 7150) (.v 2026))) (.il 40)
abbrev qwl222 : E := .o2 .le (.o1 .size (.o2 (.cell 3) (.v 7150) (.v 2026))) (.il 20)
abbrev qwl223 : E := .o2 .le (.o1 .size (.o2 (.cell 2) (.v 7150) (.v 2026))) (.il 20)
abbrev qwl224 : E := .o2 .le (.o1 .size (.o2 (.cell 1) (.v 7150) (.v 2026))) (.il 20)
abbrev qwl225 : E := .o2 .le (.o1 .size (.o2 (.cell 0) (.v 7150) (.v 2026))) (.il 20)
abbrev qwl226 : E := .o2 .lt (.v 2026) (.o1 .tlen (.v 7150))
abbrev qwl227 : Facts := [(qwl226, true)]
abbrev qwl228 : Facts := ((qwl225, true) : E × Bool) :: qwl227
abbrev qwl229 : Facts := ((qwl224, true) : E × Bool) :: qwl228
abbrev qwl230 : Facts := ((qwl223, true) : E × Bool) :: qwl229
abbrev qwl231 : Facts := ((qwl222, true) : E × Bool) :: qwl230
abbrev qwl232 : Facts := ((qwl221, true) : E × Bool) :: qwl231
abbrev qwl233 : Facts := ((qwl220, true) : E × Bool) :: qwl232
abbrev qwl234 : E := .uf 86 (.o2 .cel (.v 7150) (.il 0))
abbrev qwl235 : List Ob := [(.e qwl234)]
abbrev qwl236 : Facts := ((qwl219, false) : E × Bool) :: qwl233
abbrev qwl237 : Facts := (((.o2 (.cell 7) (.v 7150) (.v 2026)), false) : E × Bool) :: qwl236
def jKL0 : List (Facts × List Ob) :=
  [((((qwl219, true) : E × Bool) :: qwl233),
    qwl235),
   (((((.o2 (.cell 7) (.v 7150) (.v 2026)), true) : E × Bool) :: qwl236),
    qwl235),
   (((((.o2 (.cell 6) (.v 7150) (.v 2026)), true) : E × Bool) :: qwl237),
    qwl235),
   (((((.o2 (.cell 6) (.v 7150) (.v 2026)), false) : E × Bool) :: qwl237),
    [(.e (.o2 .lt (.v 2026) (.uf 87 (.o2 .cel (.v 7150) (.il 0)))))]),
   ((((qwl220, false) : E × Bool) :: qwl232),
    qwl235),
   ((((qwl221, false) : E × Bool) :: qwl231),
    qwl235),
   ((((qwl222, false) : E × Bool) :: qwl230),
    qwl235),
   ((((qwl223, false) : E × Bool) :: qwl229),
    qwl235),
   ((((qwl224, false) : E × Bool) :: qwl228),
    qwl235),
   ((((qwl225, false) : E × Bool) :: qwl227),
    qwl235),
   ([(qwl226, false)],
    [(.e (.o1 .not qwl234))])]
abbrev qwl238 : E := .o2 .ieq (.o2 (.cell 1) (.v 7171) (.v 2028)) (.il 0)
abbrev qwl239 : E := .o2 .lt (.v 2028) (.o1 .tlen (.v 7171))
abbrev qwl240 : Facts := [(qwl239, true)]
abbrev qwl241 : Facts := ((qwl238, true) : E × Bool) :: qwl240
abbrev qwl242 : E := .o2 .cel (.v 7171) (.o2 .cel (.o2 .add (.v 2028) (.il 1)) (.il 0))
abbrev qwl243 : E := .uf 91 (.o2 .cel (.v 7170) qwl242)
abbrev qwl244 : E := .o1 .tlen qwl243
abbrev qwl245 : Facts := ((qwl238, false) : E × Bool) :: qwl240
abbrev qwl246 : Facts := [(qwl239, false)]
abbrev qwl247 : E := .o2 .or (.o2 .lt (.il 0) (.o1 .tlen (.v 7171))) (.o2 .lt (.il 0) (.o1 .tlen (.v 7170)))
abbrev qwl248 : E := .o2 .cel (.v 7171) (.o2 .cel (.v 2028) (.il 0))
abbrev qwl249 : E := .o2 .cel (.v 7171) (.o2 .cel (.o1 .tlen (.v 7171)) (.il 0))
def kKL0 : List (Facts × List Ob) :=
  [(qwl241,
    [(.e (.o2 .ieq (.il 1) qwl244)), (.e (.o2 .seq (.o2 (.cell 5) (.v 7171) (.v 2028)) (.uf 92 (.o2 .cel (.v 7172) qwl242)))), (.e (.o2 .ieq qwl244 (.il 1))), (.e (.o2 .ieq (.o2 (.cell 0) (.v 7171) (.v 2028)) (.o2 (.cell 0) qwl243 (.il 0)))), (.e (.o2 .ieq (.o2 (.cell 1) (.v 7171) (.v 2028)) (.o2 (.cell 1) qwl243 (.il 0)))), (.e (.o2 .seq (.o2 (.cell 2) (.v 7171) (.v 2028)) (.o2 (.cell 2) qwl243 (.il 0)))), (.e (.o2 .seq (.o2 (.cell 3) (.v 7171) (.v 2028)) (.o2 (.cell 3) qwl243 (.il 0)))), (.e (.o2 .seq (.o2 (.cell 4) (.v 7171) (.v 2028)) (.o2 (.cell 4) qwl243 (.il 0)))), (.e (.o2 .seq (.o2 (.cell 5) (.v 7171) (.v 2028)) (.o2 (.cell 5) qwl243 (.il 0)))), (.t (.o2 (.cell 6) (.v 7171) (.v 2028)) (.o2 (.cell 6) qwl243 (.il 0))), (.e (.o2 .seq (.o2 (.cell 7) (.v 7171) (.v 2028)) (.o2 (.cell 7) qwl243 (.il 0)))), (.e (.o2 .beq (.o2 (.cell 8) (.v 7171) (.v 2028)) (.o2 (.cell 8) qwl243 (.il 0)))), (.e (.o2 .beq (.o2 (.cell 9) (.v 7171) (.v 2028)) (.o2 (.cell 9) qwl243 (.il 0))))]),
   (qwl245,
    [(.e (.bl false))]),
   (qwl246,
    [(.e (.o1 .not qwl247)), (.e (.o2 .seq (.uf 92 (.o2 .cel (.v 7172) qwl248)) (.uf 92 (.o2 .cel (.v 7172) qwl249))))])]
abbrev qwl250 : E := .uf 91 (.o2 .cel (.v 7170) qwl248)
abbrev qwl251 : E := .o1 .tlen qwl250
abbrev qwl252 : E := .uf 91 (.o2 .cel (.v 7170) qwl249)
def kKL1 : List (Facts × List Ob) :=
  [(qwl241,
    [(.e (.o2 .ieq (.o2 .add qwl251 (.il 1)) qwl244)), (.e (.o2 .seq (.o2 (.cell 5) (.v 7171) (.v 2028)) (.uf 92 (.o2 .cel (.v 7172) qwl242)))), (.t (.o2 .tcat qwl250 (.o2 .cel (.o2 (.cell 0) (.v 7171) (.v 2028)) (.o2 .cel (.o2 (.cell 1) (.v 7171) (.v 2028)) (.o2 .cel (.o2 (.cell 2) (.v 7171) (.v 2028)) (.o2 .cel (.o2 (.cell 3) (.v 7171) (.v 2028)) (.o2 .cel (.o2 (.cell 4) (.v 7171) (.v 2028)) (.o2 .cel (.o2 (.cell 5) (.v 7171) (.v 2028)) (.o2 .cel (.o2 (.cell 6) (.v 7171) (.v 2028)) (.o2 .cel (.o2 (.cell 7) (.v 7171) (.v 2028)) (.o2 .cel (.o2 (.cell 8) (.v 7171) (.v 2028)) (.o2 .cel (.o2 (.cell 9) (.v 7171) (.v 2028)) (.il 0)))))))))))) qwl243)]),
   (qwl245,
    [(.e (.bl false))]),
   (qwl246,
    [(.e qwl247), (.e (.o2 .ieq qwl251 (.o1 .tlen qwl252))), (.e (.o2 .seq (.uf 92 (.o2 .cel (.v 7172) qwl248)) (.uf 92 (.o2 .cel (.v 7172) qwl249)))), (.t qwl250 qwl252)])]
abbrev qwl253 : E := .o2 .lt (.v 2027) (.o1 .tlen (.v 7160))
abbrev qwl254 : Facts := [(qwl253, true)]
abbrev qwl255 : Facts := (((.o2 (.cell 3) (.v 7160) (.v 2027)), true) : E × Bool) :: qwl254
abbrev qwl256 : E := .o1 .tlen (.o2 (.cell 0) (.v 7160) (.v 2027))
abbrev qwl257 : E := .o2 .lt (.il 0) qwl256
abbrev qwl258 : E := .o2 .cel (.v 7160) (.o2 .cel (.v 2027) (.il 0))
abbrev qwl259 : E := .uf 89 (.o2 .cel (.v 7161) qwl258)
abbrev qwl260 : E := .o2 .seq (.o2 (.cell 2) (.v 7160) (.v 2027)) qwl259
abbrev qwl261 : Facts := (((.o2 (.cell 3) (.v 7160) (.v 2027)), false) : E × Bool) :: qwl254
abbrev qwl262 : Facts := (((.o2 (.cell 1) (.v 7160) (.v 2027)), true) : E × Bool) :: qwl261
abbrev qwl263 : Facts := ((qwl260, true) : E × Bool) :: qwl262
abbrev qwl264 : E := .o2 .cel (.v 7160) (.o2 .cel (.o2 .add (.v 2027) (.il 1)) (.il 0))
abbrev qwl265 : E := .uf 88 qwl264
abbrev qwl266 : E := .o1 .tlen qwl265
abbrev qwl267 : E := .o2 .cel (.o2 (.cell 0) (.v 7160) (.v 2027)) (.o2 .cel (.il 0) (.il 0))
abbrev qwl268 : E := .o2 .cel (.o2 (.cell 0) (.v 7160) (.v 2027)) (.o2 .cel qwl256 (.il 0))
abbrev qwl269 : E := .uf 91 (.o2 .cel (.il 0) qwl268)
abbrev qwl270 : List Ob := [(.e (.o2 .lt (.il 0) qwl266)), (.e (.o2 .seq qwl259 (.uf 92 (.o2 .cel qwl259 qwl267)))), (.e (.o2 .le qwl256 (.il 80))), (.e (.uf 93 (.o2 .cel (.o2 (.cell 0) (.v 7160) (.v 2027)) (.il 0)))), (.e (.o2 .ieq (.o1 .tlen qwl269) qwl266)), (.e (.o2 .seq (.uf 92 (.o2 .cel qwl259 qwl268)) (.uf 89 (.o2 .cel (.v 7161) qwl264)))), (.t qwl269 qwl265)]
abbrev qwl271 : List Ob := [(.e (.o2 .ieq qwl266 (.il 0))), (.e (.o2 .seq qwl259 (.uf 92 (.o2 .cel qwl259 qwl267)))), (.e (.uf 93 (.o2 .cel (.o2 (.cell 0) (.v 7160) (.v 2027)) (.il 0)))), (.e (.o2 .seq (.uf 92 (.o2 .cel qwl259 qwl268)) (.uf 89 (.o2 .cel (.v 7161) qwl264))))]
abbrev qwl272 : Facts := ((qwl260, false) : E × Bool) :: qwl262
abbrev qwl273 : Facts := (((.o2 (.cell 1) (.v 7160) (.v 2027)), false) : E × Bool) :: qwl261
abbrev qwl274 : Facts := [(qwl253, false)]
abbrev qwl275 : E := .uf 88 (.o2 .cel (.v 7160) (.o2 .cel (.o1 .tlen (.v 7160)) (.il 0)))
abbrev qwl276 : E := .o1 .tlen qwl275
abbrev qwl277 : E := .o2 .lt (.il 0) qwl276
def aKL0 : List (Facts × List Ob) :=
  [(qwl255,
    [(.e (.bl false))]),
   ((((qwl257, true) : E × Bool) :: qwl263),
    qwl270),
   ((((qwl257, false) : E × Bool) :: qwl263),
    qwl271),
   (qwl272,
    [(.e (.bl false))]),
   ((((qwl257, true) : E × Bool) :: qwl273),
    qwl270),
   ((((qwl257, false) : E × Bool) :: qwl273),
    qwl271),
   (qwl274,
    [(.e (.o1 .not qwl277))])]
abbrev qwl278 : E := .uf 88 qwl258
abbrev qwl279 : E := .uf 91 (.o2 .cel qwl278 qwl267)
abbrev qwl280 : E := .o1 .tlen qwl278
abbrev qwl281 : E := .uf 91 (.o2 .cel qwl278 qwl268)
abbrev qwl282 : List Ob := [(.e (.o2 .lt (.il 0) qwl266)), (.t qwl278 qwl279), (.e (.o2 .seq qwl259 (.uf 92 (.o2 .cel qwl259 qwl267)))), (.e (.o2 .ieq qwl280 (.o1 .tlen qwl279))), (.e (.o2 .le qwl256 (.il 80))), (.e (.uf 93 (.o2 .cel (.o2 (.cell 0) (.v 7160) (.v 2027)) (.il 0)))), (.e (.o2 .ieq (.o1 .tlen qwl281) qwl266)), (.e (.o2 .seq (.uf 92 (.o2 .cel qwl259 qwl268)) (.uf 89 (.o2 .cel (.v 7161) qwl264)))), (.t qwl281 qwl265)]
def aKL1 : List (Facts × List Ob) :=
  [(qwl255,
    [(.e (.bl false))]),
   (qwl263,
    qwl282),
   (qwl272,
    [(.e (.bl false))]),
   (qwl273,
    qwl282),
   (qwl274,
    [(.e qwl277), (.e (.o2 .ieq qwl280 qwl276)), (.t qwl278 qwl275)])]
abbrev qwl283 : E := .o2 .cel (.v 7066) (.o2 .cel (.o2 (.cell 0) (.v 7065) (.v 2015)) (.o2 .cel (.o2 (.cell 1) (.v 7065) (.v 2015)) (.il 0)))
abbrev qwl284 : E := .o2 .le (.il 0) (.uf 61 qwl283)
abbrev qwl285 : E := .uf 60 qwl283
abbrev qwl286 : E := .o2 .lt (.v 2015) (.o1 .tlen (.v 7065))
abbrev qwl287 : Facts := [(qwl286, true)]
abbrev qwl288 : Facts := ((qwl285, true) : E × Bool) :: qwl287
abbrev qwl289 : E := .o2 .cel (.v 7065) (.o2 .cel (.v 7066) (.il 0))
abbrev qwl290 : List Ob := [(.e (.o2 .le (.o1 .tlen (.v 7066)) (.il 9223372036854775807)))]
abbrev qwl291 : E := .uf 96 qwl289
abbrev qwl292 : List Ob := ((.e qwl291) : Ob) :: qwl290
def tlYL0 : List (Facts × List Ob) :=
  [((((qwl284, true) : E × Bool) :: qwl288),
    (((.e (.o2 .lt (.v 2015) (.uf 97 qwl289))) : Ob) :: qwl290)),
   ((((qwl284, false) : E × Bool) :: qwl288),
    qwl292),
   ((((qwl285, false) : E × Bool) :: qwl287),
    qwl292),
   ([(qwl286, false)],
    [(.e (.o1 .not qwl291))])]
def wKL0 : List (Facts × List Ob) :=
  [([],
    [])]
abbrev qwl293 : E := .uf 94 (.o2 .cel (.v 7180) (.o2 .cel (.v 7181) (.il 0)))
abbrev qwl294 : E := .o2 (.cell 6) qwl293 (.v 2029)
abbrev qwl295 : E := .uf 96 (.o2 .cel qwl294 (.o2 .cel (.o2 (.cell 4) (.v 7181) (.v 2029)) (.il 0)))
abbrev qwl296 : E := .o1 .tlen qwl294
abbrev qwl297 : E := .o1 .tlen (.o2 (.cell 4) (.v 7181) (.v 2029))
abbrev qwl298 : E := .o2 .ieq qwl296 qwl297
abbrev qwl299 : E := .o2 .beq (.o2 (.cell 9) qwl293 (.v 2029)) (.o2 (.cell 7) (.v 7181) (.v 2029))
abbrev qwl300 : E := .o2 .beq (.o2 (.cell 8) qwl293 (.v 2029)) (.o2 (.cell 6) (.v 7181) (.v 2029))
abbrev qwl301 : E := .o2 .seq (.o2 (.cell 7) qwl293 (.v 2029)) (.o2 (.cell 5) (.v 7181) (.v 2029))
abbrev qwl302 : E := .o2 .add (.o2 .add (.v 7180) (.il 1)) (.v 2029)
abbrev qwl303 : E := .o2 .cel qwl302 (.il 0)
abbrev qwl304 : E := .o2 .add (.il 48) (.uf 75 qwl303)
abbrev qwl305 : E := .o1 .chr qwl304
abbrev qwl306 : E := .uf 74 qwl303
abbrev qwl307 : E := .o2 .seq (.o2 (.cell 5) qwl293 (.v 2029)) (.o2 .cat qwl305 qwl306)
abbrev qwl308 : E := .o2 .seq (.o2 (.cell 4) qwl293 (.v 2029)) (.o2 (.cell 2) (.v 7181) (.v 2029))
abbrev qwl309 : E := .o2 .seq (.o2 (.cell 3) qwl293 (.v 2029)) (.o2 (.cell 1) (.v 7181) (.v 2029))
abbrev qwl310 : E := .o2 .seq (.o2 (.cell 2) qwl293 (.v 2029)) (.o2 (.cell 0) (.v 7181) (.v 2029))
abbrev qwl311 : E := .o2 (.cell 0) qwl293 (.v 2029)
abbrev qwl312 : E := .o2 .ieq qwl311 (.il 1)
abbrev qwl313 : E := .o2 .rem (.o1 .size (.o2 (.cell 5) (.v 7181) (.v 2029))) (.il 3)
abbrev qwl314 : E := .o2 .ieq qwl313 (.il 0)
abbrev qwl315 : E := .o2 .lt (.v 2029) (.o1 .tlen qwl293)
abbrev qwl316 : Facts := [(qwl315, true)]
abbrev qwl317 : Facts := ((qwl314, true) : E × Bool) :: qwl316
abbrev qwl318 : Facts := ((qwl312, true) : E × Bool) :: qwl317
abbrev qwl319 : Facts := ((qwl310, true) : E × Bool) :: qwl318
abbrev qwl320 : Facts := ((qwl309, true) : E × Bool) :: qwl319
abbrev qwl321 : Facts := ((qwl308, true) : E × Bool) :: qwl320
abbrev qwl322 : Facts := ((qwl307, true) : E × Bool) :: qwl321
abbrev qwl323 : Facts := ((qwl301, true) : E × Bool) :: qwl322
abbrev qwl324 : Facts := ((qwl300, true) : E × Bool) :: qwl323
abbrev qwl325 : Facts := ((qwl299, true) : E × Bool) :: qwl324
abbrev qwl326 : Facts := ((qwl298, true) : E × Bool) :: qwl325
abbrev qwl327 : E := .o2 .cel qwl302 (.o2 .cel (.il 0) (.il 0))
abbrev qwl328 : List Ob := [(.e (.o2 .le (.o2 .add (.o1 .size qwl305) (.o1 .size qwl306)) (.il 9223372036854775807))), (.e (.o2 .le qwl304 (.il 255))), (.e (.o2 .le (.il 0) qwl304)), (.e (.o2 .le qwl304 (.il 9223372036854775807))), (.e (.o2 .le (.il (-9223372036854775808)) qwl304)), (.e (.o2 .seq (.sl []) (.uf 72 qwl327))), (.e (.o2 .ieq qwl302 (.uf 73 qwl327))), (.e (.o2 .lt (.v 2029) (.o1 .tlen (.v 7181))))]
abbrev qwl329 : List Ob := ((.e (.o2 .le qwl297 (.il 9223372036854775807))) : Ob) :: ((.e (.o2 .le qwl296 (.il 9223372036854775807))) : Ob) :: qwl328
abbrev qwl330 : List Ob := ((.e (.bl false)) : Ob) :: qwl329
abbrev qwl331 : List Ob := ((.e (.bl false)) : Ob) :: qwl328
abbrev qwl332 : E := .o2 .ieq qwl311 (.il 2)
abbrev qwl333 : E := .o2 .ieq qwl313 (.il 1)
abbrev qwl334 : Facts := ((qwl314, false) : E × Bool) :: qwl316
abbrev qwl335 : Facts := ((qwl333, true) : E × Bool) :: qwl334
abbrev qwl336 : Facts := ((qwl332, true) : E × Bool) :: qwl335
abbrev qwl337 : Facts := ((qwl310, true) : E × Bool) :: qwl336
abbrev qwl338 : Facts := ((qwl309, true) : E × Bool) :: qwl337
abbrev qwl339 : Facts := ((qwl308, true) : E × Bool) :: qwl338
abbrev qwl340 : Facts := ((qwl307, true) : E × Bool) :: qwl339
abbrev qwl341 : Facts := ((qwl301, true) : E × Bool) :: qwl340
abbrev qwl342 : Facts := ((qwl300, true) : E × Bool) :: qwl341
abbrev qwl343 : Facts := ((qwl299, true) : E × Bool) :: qwl342
abbrev qwl344 : Facts := ((qwl298, true) : E × Bool) :: qwl343
abbrev qwl345 : E := .o2 .ieq qwl311 (.il 3)
abbrev qwl346 : Facts := ((qwl333, false) : E × Bool) :: qwl334
abbrev qwl347 : Facts := ((qwl345, true) : E × Bool) :: qwl346
abbrev qwl348 : Facts := ((qwl310, true) : E × Bool) :: qwl347
abbrev qwl349 : Facts := ((qwl309, true) : E × Bool) :: qwl348
abbrev qwl350 : Facts := ((qwl308, true) : E × Bool) :: qwl349
abbrev qwl351 : Facts := ((qwl307, true) : E × Bool) :: qwl350
abbrev qwl352 : Facts := ((qwl301, true) : E × Bool) :: qwl351
abbrev qwl353 : Facts := ((qwl300, true) : E × Bool) :: qwl352
abbrev qwl354 : Facts := ((qwl299, true) : E × Bool) :: qwl353
abbrev qwl355 : Facts := ((qwl298, true) : E × Bool) :: qwl354
abbrev qwl356 : List Ob := ((.e (.o2 .ieq qwl313 (.il 2))) : Ob) :: ((.e (.o2 .lt qwl313 (.il 3))) : Ob) :: ((.e (.o2 .le (.il 0) qwl313)) : Ob) :: qwl328
abbrev qwl357 : List Ob := ((.e (.o2 .le qwl297 (.il 9223372036854775807))) : Ob) :: ((.e (.o2 .le qwl296 (.il 9223372036854775807))) : Ob) :: qwl356
abbrev qwl358 : List Ob := ((.e (.bl false)) : Ob) :: qwl356
def wKL1 : List (Facts × List Ob) :=
  [((((qwl295, true) : E × Bool) :: qwl326),
    qwl330),
   ((((qwl295, false) : E × Bool) :: qwl326),
    qwl329),
   ((((qwl298, false) : E × Bool) :: qwl325),
    qwl331),
   ((((qwl299, false) : E × Bool) :: qwl324),
    qwl331),
   ((((qwl300, false) : E × Bool) :: qwl323),
    qwl331),
   ((((qwl301, false) : E × Bool) :: qwl322),
    qwl331),
   ((((qwl307, false) : E × Bool) :: qwl321),
    qwl331),
   ((((qwl308, false) : E × Bool) :: qwl320),
    qwl331),
   ((((qwl309, false) : E × Bool) :: qwl319),
    qwl331),
   ((((qwl310, false) : E × Bool) :: qwl318),
    qwl331),
   ((((qwl312, false) : E × Bool) :: qwl317),
    qwl331),
   ((((qwl295, true) : E × Bool) :: qwl344),
    qwl330),
   ((((qwl295, false) : E × Bool) :: qwl344),
    qwl329),
   ((((qwl298, false) : E × Bool) :: qwl343),
    qwl331),
   ((((qwl299, false) : E × Bool) :: qwl342),
    qwl331),
   ((((qwl300, false) : E × Bool) :: qwl341),
    qwl331),
   ((((qwl301, false) : E × Bool) :: qwl340),
    qwl331),
   ((((qwl307, false) : E × Bool) :: qwl339),
    qwl331),
   ((((qwl308, false) : E × Bool) :: qwl338),
    qwl331),
   ((((qwl309, false) : E × Bool) :: qwl337),
    qwl331),
   ((((qwl310, false) : E × Bool) :: qwl336),
    qwl331),
   ((((qwl332, false) : E × Bool) :: qwl335),
    qwl331),
   ((((qwl295, true) : E × Bool) :: qwl355),
    (((.e (.bl false)) : Ob) :: qwl357)),
   ((((qwl295, false) : E × Bool) :: qwl355),
    qwl357),
   ((((qwl298, false) : E × Bool) :: qwl354),
    qwl358),
   ((((qwl299, false) : E × Bool) :: qwl353),
    qwl358),
   ((((qwl300, false) : E × Bool) :: qwl352),
    qwl358),
   ((((qwl301, false) : E × Bool) :: qwl351),
    qwl358),
   ((((qwl307, false) : E × Bool) :: qwl350),
    qwl358),
   ((((qwl308, false) : E × Bool) :: qwl349),
    qwl358),
   ((((qwl309, false) : E × Bool) :: qwl348),
    qwl358),
   ((((qwl310, false) : E × Bool) :: qwl347),
    qwl358),
   ((((qwl345, false) : E × Bool) :: qwl346),
    qwl358),
   ([(qwl315, false)],
    [])]
end Go.Proofs.Ytckdphmpafopmaa.sxRetrying

namespace Go.Proofs.Ytckdphmpafopmaa.sxRetrying
open Go.Sx
set_option linter.unusedVariables false
abbrev qwm0 : E := .o2 .lt (.il 2147483647) (.o1 .tlen (.v 32))
abbrev qwm1 : Facts := [((.o2 .le (.il (-9223372036854775808)) (.v 0)), true), ((.o2 .le (.v 0) (.il 9223372036854775807)), true), ((.o2 .le (.o1 .tlen (.v 32)) (.il 9223372036854775807)), true), ((.o2 .le (.o1 .tlen (.v 64)) (.il 9223372036854775807)), true)]
abbrev qwm2 : Facts := ((qwm0, false) : E × Bool) :: qwm1
abbrev qwm3 : E := .o2 .lt (.il 2147483647) (.o1 .tlen (.v 64))
abbrev qwm4 : Facts := (((.uf 70 (.o2 .cel (.v 32) (.il 0))), false) : E × Bool) :: qwm2
abbrev qwm5 : Facts := ((qwm3, false) : E × Bool) :: qwm4
abbrev qwm6 : Facts := (((.o2 .lt (.v 0) (.il 1)), false) : E × Bool) :: qwm5
abbrev qwm7 : E := .o2 .lt (.il 40) (.o1 .tlen (.v 32))
abbrev qwm8 : Facts := (((.o2 .lt (.il 1048576) (.v 0)), false) : E × Bool) :: qwm6
abbrev qwm9 : E := .o2 .lt (.il 20) (.o1 .tlen (.v 64))
abbrev qwm10 : Facts := ((qwm7, false) : E × Bool) :: qwm8
abbrev qwm11 : Facts := ((qwm9, false) : E × Bool) :: qwm10
abbrev qwm12 : List Ob := [(.e (.o2 .ieq (.il 0) (.uf 81 (.o2 .cel (.v 0) (.o2 .cel (.v 32) (.o2 .cel (.v 64) (.o2 .cel (.il 0) (.il 0))))))))]
abbrev qwm13 : E := .o2 .ieq (.o1 .tlen (.v 64)) (.il 0)
abbrev qwm14 : Facts := (((.uf 77 (.o2 .cel (.v 64) (.il 0))), false) : E × Bool) :: qwm11
abbrev qwm15 : Facts := ((qwm13, true) : E × Bool) :: qwm14
abbrev qwm16 : E := .o2 .cel (.il 0) (.o2 .cel (.il 0) (.il 0))
abbrev qwm17 : E := .o2 .cel (.il 1) (.o2 .cel (.il 0) (.o2 .cel (.sl []) (.o2 .cel (.sl []) (.o2 .cel (.sl []) (.o2 .cel (.sl []) (.o2 .cel (.il 0) (.o2 .cel (.sl []) (.o2 .cel (.bl false) (.o2 .cel (.bl false) qwm16)))))))))
abbrev qwm18 : E := .uf 85 (.o2 .cel qwm17 (.o2 .cel (.v 0) (.o2 .cel (.v 32) qwm16)))
abbrev qwm19 : E := .o1 .tlen qwm18
abbrev qwm20 : List Ob := ((.e (.o2 .ieq (.il 0) (.o2 (.cell 11) qwm18 (.il 0)))) : Ob) :: ((.e (.o2 .ieq (.il 0) (.o2 (.cell 10) qwm18 (.il 0)))) : Ob) :: ((.e (.o2 .beq (.bl false) (.o2 (.cell 9) qwm18 (.il 0)))) : Ob) :: ((.e (.o2 .beq (.bl false) (.o2 (.cell 8) qwm18 (.il 0)))) : Ob) :: ((.e (.o2 .seq (.sl []) (.o2 (.cell 7) qwm18 (.il 0)))) : Ob) :: ((.t (.il 0) (.o2 (.cell 6) qwm18 (.il 0))) : Ob) :: ((.e (.o2 .seq (.sl []) (.o2 (.cell 5) qwm18 (.il 0)))) : Ob) :: ((.e (.o2 .seq (.sl []) (.o2 (.cell 4) qwm18 (.il 0)))) : Ob) :: ((.e (.o2 .seq (.sl []) (.o2 (.cell 3) qwm18 (.il 0)))) : Ob) :: ((.e (.o2 .seq (.sl []) (.o2 (.cell 2) qwm18 (.il 0)))) : Ob) :: ((.e (.o2 .ieq (.il 0) (.o2 (.cell 1) qwm18 (.il 0)))) : Ob) :: ((.e (.o2 .ieq (.il 1) (.o2 (.cell 0) qwm18 (.il 0)))) : Ob) :: ((.e (.o2 .ieq qwm19 (.il 1))) : Ob) :: ((.e (.o2 .ieq (.il 1) qwm19)) : Ob) :: qwm12
abbrev qwm21 : E := .o2 .add (.il 48) (.uf 75 (.o2 .cel (.v 0) (.il 0)))
abbrev qwm22 : E := .o1 .chr qwm21
abbrev qwm23 : E := .o2 .cat qwm22 (.uf 74 (.o2 .cel (.v 0) (.il 0)))
abbrev qwm24 : E := .o2 .seq qwm23 (.sl [])
abbrev qwm25 : Facts := (((.uf 86 (.o2 .cel (.v 32) (.il 0))), false) : E × Bool) :: qwm15
abbrev qwm26 : E := .o2 .cel (.v 0) (.o2 .cel (.il 0) (.il 0))
abbrev qwm27 : List Ob := ((.e (.o2 .le (.o2 .add (.o1 .size qwm22) (.o1 .size (.uf 74 (.o2 .cel (.v 0) (.il 0))))) (.il 9223372036854775807))) : Ob) :: ((.e (.o2 .le qwm21 (.il 255))) : Ob) :: ((.e (.o2 .le (.il 0) qwm21)) : Ob) :: ((.e (.o2 .le qwm21 (.il 9223372036854775807))) : Ob) :: ((.e (.o2 .le (.il (-9223372036854775808)) qwm21)) : Ob) :: ((.e (.o2 .seq (.sl []) (.uf 72 qwm26))) : Ob) :: ((.e (.o2 .ieq (.v 0) (.uf 73 qwm26))) : Ob) :: qwm20
abbrev qwm28 : List Ob := ((.e (.bl false)) : Ob) :: qwm27
abbrev qwm29 : E := .o2 .seq qwm23 (.sl [48])
abbrev qwm30 : Facts := ((qwm24, false) : E × Bool) :: qwm25
abbrev qwm31 : E := .uf 85 (.o2 .cel qwm17 (.o2 .cel (.v 0) (.o2 .cel (.v 32) (.o2 .cel (.il 0) (.o2 .cel (.o2 .sub (.o1 .tlen (.v 32)) (.il 0)) (.il 0))))))
abbrev qwm32 : E := .o2 .cel qwm31 (.il 0)
abbrev qwm33 : E := .uf 30 (.o2 .cel qwm23 qwm32)
abbrev qwm34 : E := .o1 .tlen qwm33
abbrev qwm35 : E := .uf 88 (.o2 .cel qwm33 (.o2 .cel qwm34 (.il 0)))
abbrev qwm36 : E := .o1 .tlen qwm35
abbrev qwm37 : E := .o2 .ieq qwm36 (.o1 .tlen (.v 32))
abbrev qwm38 : E := .o2 .lt (.il 0) qwm36
abbrev qwm39 : E := .o1 .tlen qwm31
abbrev qwm40 : E := .o2 .ieq qwm34 qwm39
abbrev qwm41 : Facts := ((qwm29, false) : E × Bool) :: qwm30
abbrev qwm42 : Facts := ((qwm40, true) : E × Bool) :: qwm41
abbrev qwm43 : Facts := ((qwm38, true) : E × Bool) :: qwm42
abbrev qwm44 : E := .uf 94 (.o2 .cel (.v 0) (.o2 .cel (.v 32) (.il 0)))
abbrev qwm45 : E := .o1 .tlen qwm44
abbrev qwm46 : E := .o2 .cel qwm33 (.o2 .cel (.il 0) (.il 0))
abbrev qwm47 : E := .o2 .cel qwm23 (.o2 .cel qwm31 (.o2 .cel (.il 0) (.il 0)))
abbrev qwm48 : List Ob := ((.e (.o2 .seq qwm23 (.uf 20 qwm47))) : Ob) :: ((.e (.o2 .beq (.bl false) (.uf 22 qwm47))) : Ob) :: ((.e (.o2 .beq (.bl false) (.uf 21 qwm47))) : Ob) :: ((.e (.o1 .not (.uf 9 qwm32))) : Ob) :: ((.e (.o2 .le qwm39 (.il 1000))) : Ob) :: qwm27
abbrev qwm49 : List Ob := ((.e (.o2 .seq qwm23 (.uf 89 (.o2 .cel qwm23 qwm46)))) : Ob) :: ((.e (.o2 .ieq (.o1 .tlen (.uf 88 qwm46)) (.il 0))) : Ob) :: ((.e (.o2 .le qwm34 (.il 1000))) : Ob) :: ((.e (.uf 90 (.o2 .cel qwm23 (.o2 .cel qwm33 (.il 0))))) : Ob) :: ((.e (.o2 .le (.o2 .add (.o1 .size qwm22) (.o1 .size (.uf 74 (.o2 .cel (.v 0) (.il 0))))) (.il 9223372036854775807))) : Ob) :: ((.e (.o2 .le qwm21 (.il 255))) : Ob) :: ((.e (.o2 .le (.il 0) qwm21)) : Ob) :: ((.e (.o2 .le qwm21 (.il 9223372036854775807))) : Ob) :: ((.e (.o2 .le (.il (-9223372036854775808)) qwm21)) : Ob) :: ((.e (.o2 .seq (.sl []) (.uf 72 qwm26))) : Ob) :: ((.e (.o2 .ieq (.v 0) (.uf 73 qwm26))) : Ob) :: qwm48
abbrev qwm50 : List Ob := ((.e (.bl false)) : Ob) :: qwm49
abbrev qwm51 : E := .o2 .ieq (.il 0) (.o1 .tlen (.v 32))
abbrev qwm52 : Facts := ((qwm38, false) : E × Bool) :: qwm42
abbrev qwm53 : Facts := ((qwm13, false) : E × Bool) :: qwm14
abbrev qwm54 : E := .o2 .cel (.v 0) (.o2 .cel (.v 32) (.o2 .cel (.v 64) (.il 0)))
abbrev qwm55 : E := .o2 .tcat (.uf 82 qwm54) qwm17
abbrev qwm56 : E := .uf 85 (.o2 .cel qwm55 (.o2 .cel (.v 0) (.o2 .cel (.v 32) (.o2 .cel (.uf 83 qwm54) (.o2 .cel (.il 0) (.il 0))))))
abbrev qwm57 : E := .o1 .tlen (.uf 82 qwm54)
abbrev qwm58 : E := .o2 .add qwm57 (.il 1)
abbrev qwm59 : List Ob := ((.t qwm55 qwm56) : Ob) :: ((.e (.o2 .ieq (.uf 83 qwm54) (.o2 .add (.uf 83 qwm54) (.il 0)))) : Ob) :: ((.e (.o2 .ieq qwm58 (.o1 .tlen qwm56))) : Ob) :: ((.e (.o2 .le (.uf 83 qwm54) (.o1 .tlen (.v 32)))) : Ob) :: ((.e (.o2 .le (.il 0) (.uf 83 qwm54))) : Ob) :: ((.e (.o2 .le qwm58 (.il 10010))) : Ob) :: ((.e (.o2 .le qwm57 (.il 2147483648))) : Ob) :: qwm12
abbrev qwm60 : Facts := (((.uf 86 (.o2 .cel (.v 32) (.il 0))), false) : E × Bool) :: qwm53
abbrev qwm61 : List Ob := ((.e (.o2 .le (.o2 .add (.o1 .size qwm22) (.o1 .size (.uf 74 (.o2 .cel (.v 0) (.il 0))))) (.il 9223372036854775807))) : Ob) :: ((.e (.o2 .le qwm21 (.il 255))) : Ob) :: ((.e (.o2 .le (.il 0) qwm21)) : Ob) :: ((.e (.o2 .le qwm21 (.il 9223372036854775807))) : Ob) :: ((.e (.o2 .le (.il (-9223372036854775808)) qwm21)) : Ob) :: ((.e (.o2 .seq (.sl []) (.uf 72 qwm26))) : Ob) :: ((.e (.o2 .ieq (.v 0) (.uf 73 qwm26))) : Ob) :: qwm59
abbrev qwm62 : List Ob := ((.e (.bl false)) : Ob) :: qwm61
abbrev qwm63 : Facts := ((qwm24, false) : E × Bool) :: qwm60
abbrev qwm64 : E := .uf 85 (.o2 .cel qwm55 (.o2 .cel (.v 0) (.o2 .cel (.v 32) (.o2 .cel (.uf 83 qwm54) (.o2 .cel (.o2 .sub (.o1 .tlen (.v 32)) (.uf 83 qwm54)) (.il 0))))))
abbrev qwm65 : E := .o2 .cel qwm64 (.il 0)
abbrev qwm66 : E := .uf 30 (.o2 .cel qwm23 qwm65)
abbrev qwm67 : E := .o1 .tlen qwm66
abbrev qwm68 : E := .uf 88 (.o2 .cel qwm66 (.o2 .cel qwm67 (.il 0)))
abbrev qwm69 : E := .o1 .tlen qwm68
abbrev qwm70 : E := .o2 .ieq qwm69 (.o1 .tlen (.v 32))
abbrev qwm71 : E := .o2 .lt (.il 0) qwm69
abbrev qwm72 : E := .o1 .tlen qwm64
abbrev qwm73 : E := .o2 .ieq qwm67 qwm72
abbrev qwm74 : Facts := ((qwm29, false) : E × Bool) :: qwm63
abbrev qwm75 : Facts := ((qwm73, true) : E × Bool) :: qwm74
abbrev qwm76 : Facts := ((qwm71, true) : E × Bool) :: qwm75
abbrev qwm77 : E := .o2 .cel qwm66 (.o2 .cel (.il 0) (.il 0))
abbrev qwm78 : E := .o2 .cel qwm23 (.o2 .cel qwm64 (.o2 .cel (.il 0) (.il 0)))
abbrev qwm79 : List Ob := ((.e (.o2 .seq qwm23 (.uf 20 qwm78))) : Ob) :: ((.e (.o2 .beq (.bl false) (.uf 22 qwm78))) : Ob) :: ((.e (.o2 .beq (.bl false) (.uf 21 qwm78))) : Ob) :: ((.e (.o1 .not (.uf 9 qwm65))) : Ob) :: ((.e (.o2 .le qwm72 (.il 1000))) : Ob) :: qwm61
abbrev qwm80 : List Ob := ((.e (.o2 .seq qwm23 (.uf 89 (.o2 .cel qwm23 qwm77)))) : Ob) :: ((.e (.o2 .ieq (.o1 .tlen (.uf 88 qwm77)) (.il 0))) : Ob) :: ((.e (.o2 .le qwm67 (.il 1000))) : Ob) :: ((.e (.uf 90 (.o2 .cel qwm23 (.o2 .cel qwm66 (.il 0))))) : Ob) :: ((.e (.o2 .le (.o2 .add (.o1 .size qwm22) (.o1 .size (.uf 74 (.o2 .cel (.v 0) (.il 0))))) (.il 9223372036854775807))) : Ob) :: ((.e (.o2 .le qwm21 (.il 255))) : Ob) :: ((.e (.o2 .le (.il 0) qwm21)) : Ob) :: ((.e (.o2 .le qwm21 (.il 9223372036854775807))) : Ob) :: ((.e (.o2 .le (.il (-9223372036854775808)) qwm21)) : Ob) :: ((.e (.o2 .seq (.sl []) (.uf 72 qwm26))) : Ob) :: ((.e (.o2 .ieq (.v 0) (.uf 73 qwm26))) : Ob) :: qwm79
abbrev qwm81 : List Ob := ((.e (.bl false)) : Ob) :: qwm80
abbrev qwm82 : Facts := ((qwm71, false) : E × Bool) :: qwm75
def whL : List (Facts × List Ob) :=
  [((((qwm0, true) : E × Bool) :: qwm1),
    [(.e (.bl true))]),
   (((((.uf 70 (.o2 .cel (.v 32) (.il 0))), true) : E × Bool) :: qwm2),
    [(.e (.bl true))]),
   ((((qwm3, true) : E × Bool) :: qwm4),
    [(.e (.bl true))]),
   (((((.o2 .lt (.v 0) (.il 1)), true) : E × Bool) :: qwm5),
    [(.e (.bl true))]),
   (((((.o2 .lt (.il 1048576) (.v 0)), true) : E × Bool) :: qwm6),
    [(.e (.bl true))]),
   ((((qwm7, true) : E × Bool) :: qwm8),
    [(.e (.bl true))]),
   ((((qwm9, true) : E × Bool) :: qwm10),
    [(.e (.bl true))]),
   (((((.uf 77 (.o2 .cel (.v 64) (.il 0))), true) : E × Bool) :: qwm11),
    (((.e (.bl true)) : Ob) :: qwm12)),
   (((((.uf 86 (.o2 .cel (.v 32) (.il 0))), true) : E × Bool) :: qwm15),
    (((.e (.bl true)) : Ob) :: qwm20)),
   ((((qwm24, true) : E × Bool) :: qwm25),
    qwm28),
   ((((qwm29, true) : E × Bool) :: qwm30),
    qwm28),
   ((((qwm37, true) : E × Bool) :: qwm43),
    (((.e (.bl true)) : Ob) :: ((.t qwm35 qwm44) : Ob) :: ((.e (.o2 .ieq qwm36 qwm45)) : Ob) :: ((.e (.o2 .ieq qwm36 qwm45)) : Ob) :: ((.e (.o2 .ieq qwm36 qwm45)) : Ob) :: ((.e (.o2 .lt (.il 0) qwm45)) : Ob) :: qwm49)),
   ((((qwm37, false) : E × Bool) :: qwm43),
    qwm50),
   ((((qwm51, true) : E × Bool) :: qwm52),
    (((.e (.bl true)) : Ob) :: ((.e (.o2 .ieq qwm45 (.il 0))) : Ob) :: qwm49)),
   ((((qwm51, false) : E × Bool) :: qwm52),
    qwm50),
   ((((qwm40, false) : E × Bool) :: qwm41),
    (((.e (.bl false)) : Ob) :: qwm48)),
   (((((.uf 86 (.o2 .cel (.v 32) (.il 0))), true) : E × Bool) :: qwm53),
    (((.e (.bl true)) : Ob) :: qwm59)),
   ((((qwm24, true) : E × Bool) :: qwm60),
    qwm62),
   ((((qwm29, true) : E × Bool) :: qwm63),
    qwm62),
   ((((qwm70, true) : E × Bool) :: qwm76),
    (((.e (.bl true)) : Ob) :: ((.t qwm68 qwm44) : Ob) :: ((.e (.o2 .ieq qwm69 qwm45)) : Ob) :: ((.e (.o2 .ieq qwm69 qwm45)) : Ob) :: ((.e (.o2 .ieq qwm69 qwm45)) : Ob) :: ((.e (.o2 .lt (.il 0) qwm45)) : Ob) :: qwm80)),
   ((((qwm70, false) : E × Bool) :: qwm76),
    qwm81),
   ((((qwm51, true) : E × Bool) :: qwm82),
    (((.e (.bl true)) : Ob) :: ((.e (.o2 .ieq qwm45 (.il 0))) : Ob) :: qwm80)),
   ((((qwm51, false) : E × Bool) :: qwm82),
    qwm81),
   ((((qwm73, false) : E × Bool) :: qwm74),
    (((.e (.bl false)) : Ob) :: qwm79))]
end Go.Proofs.Ytckdphmpafopmaa.sxRetrying
