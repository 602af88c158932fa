/-
  THE LAW FnTracker: the model of its answers, and its loops as they are computed.
-/
import Derived.Test.YtgopjdknmjjheaaSxWords
namespace Go.Proofs.Ytgopjdknmjjheaa.sxTracker
open Go.Sx Go.RowKit
set_option linter.unusedVariables false

def i64 (n : Nat) : SV := .int .i64 (.v n)
def fv (c : Nat) : SV := .int .i64 (.fn c (.v 2000))
def fb (c : Nat) : SV := .bool (.fn c (.v 2000))
def ops : SObj := .inp 2 (.v 32) [.int .i64 32, .str 33]
def opsS : SV := .sl 1 2 (.il 0) (.v 32)
def r : E := .v 2000
def base : Facts := [(.o2 .le (.il 0) r, true), (.o2 .le r (.v 32), true)]
def js (a b : Nat) : List Nat := (List.range (b - a)).map (· + a)
def rangeF (lo hi : Int) (e : E) : Facts := [(.o2 .le (.il lo) e, true), (.o2 .le e (.il hi), true)]

/-- A loop that looks whether operations are good: bad: the variable that says that one is not; 'stop' the place. -/
def guardY (f key N res : Nat) (v0 v1 : Bool) (a : Nat) (J : List Nat) (ex : Nat) (bad stop : Nat) (fs : Facts) : LoopY where
  f := f; key := key; N := N; r := 2000; base := 5000
  js := J
  hd := fun _ => ⟨[(res, .bool (.bl v0)), (a, opsS), (a + 1, i64 32), (a + 2, .int .i64 r)], [(1, ops)], 2, base ++ fs⟩
  ent := fun _ => base ++ fs
  app := fun _ => true
  ok0 := fun m => Nat.beq m 0
  modeL := fun _ => .ret 0
  tgt := fun m => Nat.beq m 0
  mf := fun _ => []
  hx := fun n => ⟨[(res, .bool (.bl (cond (Nat.beq n 1) v1 v0))), (a, opsS), (a + 1, i64 32), (a + 2, .top)], [(1, ops)], 2, []⟩
  xmL := fun ex _ => match ex with | .ret => .ret 1 | _ => .ret 0
  exN := fun n => match n with | 1 => .ret | _ => .exit ex
  exits := [(.v bad, 1), (.bl true, 0)]
  fixed := [1]
  lt := .o2 .lt r (.v stop)
  X := XCtr.none
  fuel := 100; np := 30
def nF : Facts := [(.o2 .le (.v 32) (.il 9223372036854775807), true)]
def g1 : LoopY := guardY 6 4 18 2 false false 8 ([4] ++ js 11 18) 0 3000 3001 nF
def g2 : LoopY := guardY 3 6 77 4 false true 17 ([6] ++ js 20 38) 0 3002 3003 nF

/-! ### the model -/
structure St where
  up : Bool
  synced : Bool
  count : Int
  has : ByteArray → Bool
  n : Int
  none : Bool

def upd (f : ByteArray → Bool) (k : ByteArray) (b : Bool) : ByteArray → Bool := fun x => if x = k then b else f x
/-- An operation: the state behind it but for what has synced, and the answer. -/
def step0 (single : Bool) (s : St) (k : Int) (key : ByteArray) : St × Int :=
  if k = 1 then (⟨s.up, s.synced, s.count + 1, upd s.has key true, if s.has key then s.n else s.n + 1, false⟩, 0)
  else if k = 2 then
    if single && decide (s.count = 0) then (⟨s.up, s.synced, s.count, upd s.has key false, if s.has key then s.n - 1 else s.n, s.none⟩, 99)
    else (⟨s.up, s.synced, s.count - 1, upd s.has key false, if s.has key then s.n - 1 else s.n, s.none⟩, 0)
  else if k = 3 then (⟨true, s.synced, s.count, s.has, s.n, s.none⟩, 0)
  else if k = 4 then (s, if s.synced then 1 else 0)
  else (s, 0)
def shut (single : Bool) (s : St) : St := ⟨s.up, s.synced || (s.up && (if single then decide (s.count = 0) else decide (s.n = 0))), s.count, s.has, s.n, s.none⟩
def stAt (single : Bool) (K : Nat → Int) (S : Nat → ByteArray) : Nat → St
  | 0 => ⟨false, false, 0, fun _ => false, 0, true⟩
  | i + 1 => shut single (step0 single (stAt single K S i) (K i) (S i)).1
def ans (single : Bool) (K : Nat → Int) (S : Nat → ByteArray) (i : Nat) : Int := (step0 single (stAt single K S i) (K i) (S i)).2

/-! ### the other loops -/
def big : Int := 1000
def outS (n m : Nat) (e : E) : SV := match m with | 0 => .nilsl | _ => .sl n 1 (.il 0) e
def outO (n m : Nat) (e : E) : CHeap := match m with | 0 => [] | _ => [(n, .row 3 1 e [.int .i64 1000] [])]
def m0F (m : Nat) : Facts := match m with | 0 => [(.o2 .ieq r (.il 0), true)] | _ => [(.o2 .lt (.il 0) r, true)]
def stF : Facts := (.v 3002, false) :: (base ++ [(.o2 .le (.v 32) (.il 80), true)])
def spMap : SObj := .map 1 r .str (fn' 1004) [(.str (.fn 33 r), .may (.fn 1005 r) (.bool (.bl true)))]
where fn' (c : Nat) : E := .fn c r
def isOut (j : Nat) (sl : List SV) (k0 k1 : MP) : MP := match nth sl j with | some .nilsl => k0 | some (.sl ..) => k1 | _ => .fail
def z0F (l : List Nat) (bs : List Nat) (m : Nat) : Facts := match m with | 0 => (l.map fun c => (.o2 .ieq (.fn c r) (.il 0), true)) ++ bs.map fun c => (.fn c r, false) | _ => []
/-- The loop of spec.Tracker. -/
def sp : LoopY where
  f := 8; key := 6; N := 72; r := 2000; base := 5000
  js := [10, 11, 12] ++ js 17 71
  hd := fun m => ⟨[(0, .bool (.v 0)), (5, fb 1001), (6, fb 1002), (7, .map 5), (8, fv 1003), (9, outS 6 m r), (13, .map 5), (14, opsS), (15, i64 32), (16, .int .i64 r)],
    outO 6 m r ++ [(5, spMap), (1, ops)], 7, m0F m ++ z0F [1003, 1004] [1001, 1002, 1005] m ++ stF ++ rangeF (-big) big (.fn 1003 r)⟩
  ent := fun m => m0F m ++ stF
  app := fun _ => true
  ok0 := fun m => Nat.beq m 0
  modeL := fun sl => isOut 9 sl (.ret 0) (.ret 1)
  tgt := fun m => Nat.beq m 1
  mf := fun _ => []
  hx := fun m => ⟨[(0, .bool (.v 0)), (5, .top), (6, .top), (7, .top), (8, .top), (9, outS 6 m (.v 32)), (13, .top), (14, opsS), (15, i64 32), (16, .top)], outO 6 m (.v 32) ++ [(1, ops)], 7, []⟩
  xmL := fun _ sl => isOut 9 sl (.ret 0) (.ret 1)
  exN := fun _ => .exit 0
  exits := [(.o2 .ieq (.v 32) (.il 0), 0), (.bl true, 1)]
  fixed := [1]
  lt := .o2 .lt r (.v 32)
  X := XCtr.none
  fuel := 100; np := 60
def imMap : SObj := .map 2 r .str (.fn 1004 r) [(.str (.fn 33 r), .may (.fn 1005 r) (.agg []))]
/-- The modes of impl.Tracker's loop: 0 at the beginning; 1 no key was begun; 2 one was. -/
def imO (m : Nat) : CHeap :=
  [(20, .cells 106 [.str (.sl [102, 105, 108, 101]), fv 1011, fb 1012, .ifc 120 (.ptr 22 (.c 0)), .fn (.func 48) [] [.ptr 23 (.c 0)]]),
   (21, .cells 114 [.str (.sl [107, 101, 121, 115]), fb 1014, (match m with | 2 => .map 28 | _ => .nilmap), .ifc 120 (.ptr 25 (.c 0)), .fn (.func 48) [] [.ptr 26 (.c 0)]]),
   (22, .cells 123 [.chan 24, fb 1013]), (23, .cells 120 [.ptr 22 (.c 0)]), (25, .cells 123 [.chan 27, fb 1015]), (26, .cells 120 [.ptr 25 (.c 0)]),
   (24, .chan (.fn 1013 r)), (27, .chan (.fn 1015 r))] ++ (match m with | 2 => [(28, imMap)] | _ => [])
def imF (m : Nat) : Facts := match m with | 1 => [(.o2 .or (.v 0) (.fn 1016 r), true)] | 2 => [(.v 0, false)] | _ => []
/-- The loop of impl.Tracker. -/
def im : LoopY where
  f := 7; key := 6; N := 41; r := 2000; base := 5000
  js := [10] ++ js 13 40
  hd := fun m => ⟨[(0, .bool (.v 0)), (1, opsS), (5, .ptr 20 (.c 0)), (6, .ptr 21 (.c 0)), (7, fv 1011), (8, outS 6 m r), (9, .int .i64 r)],
    imO m ++ outO 6 m r ++ [(1, ops)], 30, imF m ++ m0F m ++ z0F [1011, 1004] [1012, 1013, 1014, 1015] m ++ stF ++ rangeF 0 big (.fn 1011 r)⟩
  ent := fun m => m0F m ++ stF
  app := fun sl => match nth sl 1 with | some (.sl 1 ..) => true | _ => false
  ok0 := fun m => Nat.beq m 0
  modeL := fun sl => match nth sl 6 with | some (.ptr n _) => .get n fun o => (match o with | .cells _ [_, _, .nilmap, _, _] => isOut 8 sl (.ret 0) (.ret 1) | .cells _ [_, _, .map _, _, _] => .ret 2 | _ => .fail) | _ => .fail
  tgt := fun m => Nat.beq m 1 || Nat.beq m 2
  mf := imF
  hx := fun m => ⟨[(0, .bool (.v 0)), (1, opsS), (5, .top), (6, .top), (7, .top), (8, outS 6 m (.v 32)), (9, .top)], outO 6 m (.v 32) ++ [(1, ops)], 30, []⟩
  xmL := fun _ sl => isOut 8 sl (.ret 0) (.ret 1)
  exN := fun _ => .exit 0
  exits := [(.o2 .ieq (.v 32) (.il 0), 0), (.bl true, 1)]
  fixed := [1]
  lt := .o2 .lt r (.v 32)
  X := XCtr.none
  fuel := 100; np := 60
/-- The law's look at the answers. -/
def cmO (m : Nat) : CHeap := match m with | 0 => [] | _ => [(3, .row 3 1 (.v 32) [.int .i64 1000] []), (2, .row 3 1 (.v 32) [.int .i64 1000] [])]
def cmS (m n : Nat) : SV := match m with | 0 => .nilsl | _ => .sl n 1 (.il 0) (.v 32)
def cmF (m : Nat) : Facts := match m with | 0 => [(.o2 .ieq (.v 32) (.il 0), true)] | _ => []
def cm : LoopY where
  f := 3; key := 15; N := 77; r := 2000; base := 5000
  js := [9] ++ js 52 64
  hd := fun m => ⟨[(4, .bool (.bl false)), (7, cmS m 2), (8, cmS m 3), (50, i64 32), (51, .int .i64 r)], cmO m, 4, cmF m ++ base ++ [(.o2 .le (.v 32) (.il 80), true)]⟩
  ent := fun m => cmF m ++ base ++ [(.o2 .le (.v 32) (.il 80), true)]
  app := fun _ => true
  ok0 := fun m => Nat.ble m 1
  modeL := fun sl => isOut 7 sl (.ret 0) (.ret 1)
  tgt := fun m => Nat.beq m 1
  mf := fun _ => []
  hx := fun m => ⟨[(4, .bool (.bl false)), (7, .top), (8, .top), (50, i64 32), (51, .top)], [], 4, []⟩
  xmL := fun _ sl => .ret 0
  exN := fun _ => .exit 2
  exits := [(.bl true, 0)]
  fixed := []
  lt := .o2 .lt r (.v 32)
  X := XCtr.none
  fuel := 100; np := 60
def ctr : Ctr := ⟨[], [(6, 4, g1.lpP), (3, 6, g2.lpP), (8, 6, sp.lpP), (7, 6, im.lpP), (3, 15, cm.lpP)]⟩
def fs0 : Facts := [(.o2 .ieq r (.il 0), true)] ++ ([1003, 1004, 1011].map fun c => (.o2 .ieq (.fn c r) (.il 0), true)) ++ ([1001, 1002, 1012, 1013, 1014, 1015].map fun c => (.fn c r, false))
end Go.Proofs.Ytgopjdknmjjheaa.sxTracker
