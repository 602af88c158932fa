/-
  THE LAW FnRetry: the model of its answers, and its loops as they are computed.
-/
import Derived.Test.YtagpchabkplggaaSxWords
namespace Go.Proofs.Ytagpchabkplggaa.sxRetry
open Go.Sx Go.RowKit
set_option linter.unusedVariables false

/-- What a retry remembers: the time, the first error, the last one, and whether there was any. -/
structure St where
  now : Int
  first : Int
  last : Int
  any : Bool

def step (most reset : Int) (s : St) (k n : Int) : St × Bool :=
  if k = 3 then (⟨s.now + n, s.first, s.last, s.any⟩, false)
  else if k = 1 then
    if n = 12 then (⟨s.now, if s.any = false ∨ reset ≤ s.now - s.last then s.now else s.first, s.now, true⟩, false) else (s, false)
  else if k = 2 then
    if 0 < most then
      (⟨s.now, s.first, s.last, s.any && decide (s.now - s.first ≤ most)⟩, s.any && decide (s.now - s.first ≤ most))
    else (s, false)
  else (s, false)

def stAt (most reset : Int) (K N : Nat → Int) : Nat → St
  | 0 => ⟨0, 0, 0, false⟩
  | i + 1 => (step most reset (stAt most reset K N i) (K i) (N i)).1
def ans (most reset : Int) (K N : Nat → Int) (i : Nat) : Bool := (step most reset (stAt most reset K N i) (K i) (N i)).2

/-- An operation that the law lets in. -/
def okOp (k n : Int) : Prop := 1 ≤ k ∧ k ≤ 3 ∧ (k = 3 → 0 ≤ n ∧ n ≤ 1099511627776) ∧ (k = 1 → n = 0 ∨ n = 12 ∨ n = 98)
instance (k n : Int) : Decidable (okOp k n) := by unfold okOp; infer_instance

/-- The times stay small. -/
theorem small {most reset : Int} {K N : Nat → Int} : ∀ i : Nat, (∀ j, j < i → okOp (K j) (N j)) → let s := stAt most reset K N i
    0 ≤ s.now ∧ s.now ≤ i * 1099511627776 ∧ 0 ≤ s.first ∧ s.first ≤ s.now ∧ 0 ≤ s.last ∧ s.last ≤ s.now
  | 0, _ => by simp [stAt]
  | i + 1, h => by
    have ih := small (most := most) (reset := reset) i (fun j hj => h j (by omega))
    have ho := h i (by omega)
    simp only [stAt] at ih ⊢
    generalize stAt most reset K N i = s at ih
    generalize K i = k at ho
    generalize N i = n at ho
    obtain ⟨h1, h2, h3, h4⟩ := ho
    have e : ((i + 1 : Nat) : Int) * 1099511627776 = (i : Int) * 1099511627776 + 1099511627776 := by rw [Int.natCast_add]; omega
    unfold step
    split
    · rename_i hk; have := h3 hk; simp only; omega
    · split
      · split
        · simp only; split <;> omega
        · simp only; omega
      · split
        · split
          · simp only; omega
          · simp only; omega
        · simp only; omega

/-! ### the loops -/
def i64 (n : Nat) : SV := .int .i64 (.v n)
def fv (c n : Nat) : SV := .int .i64 (.fn c (.v n))
def ops : SObj := .inp 2 (.v 64) [.int .i64 64, .int .i64 65]
def r : E := .v 2000
def base : Facts := [(.o2 .le (.il 0) r, true), (.o2 .le r (.v 64), true), (.o2 .le (.v 64) (.il 80), true)]
def js (a b : Nat) : List Nat := (List.range (b - a)).map (· + a)
def rangeF (lo hi : Int) (e : E) : Facts := [(.o2 .le (.il lo) e, true), (.o2 .le e (.il hi), true)]
/-- The law's guard. -/
def gd : LoopY where
  f := 4; key := 6; N := 125; r := 2000; base := 5000
  js := [8] ++ js 38 85
  hd := fun _ => ⟨[(6, .bool (.bl false)), (35, .sl 2 2 (.il 0) (.v 64)), (36, i64 64), (37, .int .i64 r)], [(2, ops)], 3, base⟩
  ent := fun _ => base
  mode := fun _ => some 0
  tgt := fun m => Nat.beq m 0
  hx := fun n => ⟨[(6, .bool (.bl (Nat.beq n 1))), (35, .sl 2 2 (.il 0) (.v 64)), (36, i64 64), (37, .top)], [(2, ops)], 3, []⟩
  xm := fun ex _ => match ex with | .ret => some 1 | _ => some 0
  exN := fun n => match n with | 1 => .ret | _ => .exit 0
  exits := [(.v 3000, 1), (.bl true, 0)]
  fixed := [2]
  lt := .o2 .lt r (.v 3001)
  X := XCtr.none
  fuel := 100; np := 30
def big : Int := 87960930222080
def stF : Facts := (.v 3000, false) :: base ++ rangeF 0 big (.fn 1001 r) ++ rangeF 0 big (.fn 1002 r) ++ rangeF 0 big (.fn 1003 r) ++ rangeF 0 1099511627776 (.v 32)
def outS (m : Nat) (e : E) : SV := match m with | 0 => .nilsl | _ => .sl 6 1 (.il 0) e
def outO (m : Nat) (e : E) : CHeap := match m with | 0 => [] | _ => [(6, .row 4 1 e [.bool 1000] [])]
def m0F (m : Nat) : Facts := match m with | 0 => [(.o2 .ieq r (.il 0), true)] | _ => [(.o2 .lt (.il 0) r, true)]
/-- The loop of spec.Retry. -/
def sp : LoopY where
  f := 13; key := 5; N := 64; r := 2000; base := 5000
  js := [12, 13, 14] ++ js 18 63
  hd := fun m => ⟨[(0, i64 0), (1, i64 32), (7, fv 1001 2000), (8, fv 1002 2000), (9, fv 1003 2000), (10, .bool (.fn 1004 r)), (11, outS m r), (15, .sl 2 2 (.il 0) (.v 64)), (16, i64 64), (17, .int .i64 r)], outO m r ++ [(2, ops)], 7, m0F m ++ stF⟩
  ent := fun m => m0F m ++ stF
  mode := fun sl => match nth sl 11 with | some .nilsl => some 0 | some (.sl ..) => some 1 | _ => none
  tgt := fun m => Nat.beq m 1
  hx := fun m => ⟨[(0, i64 0), (1, i64 32), (7, .top), (8, .top), (9, .top), (10, .top), (11, outS m (.v 64)), (15, .sl 2 2 (.il 0) (.v 64)), (16, i64 64), (17, .top)], outO m (.v 64) ++ [(2, ops)], 7, []⟩
  xm := fun _ sl => match nth sl 11 with | some .nilsl => some 0 | _ => some 1
  exN := fun _ => .exit 0
  exits := [(.o2 .ieq (.v 64) (.il 0), 0), (.bl true, 1)]
  fixed := [2]
  lt := .o2 .lt r (.v 64)
  X := XCtr.none
  fuel := 100; np := 30
/-- What is known of an operation. -/
def opF : Facts := [(.o2 .or (.o1 .not (.o2 .lt r (.v 64))) (.o2 .or (.o1 .not (.o2 .ieq (.fn 64 r) (.il 1))) (.o2 .or (.o2 .ieq (.fn 65 r) (.il 0)) (.o2 .or (.o2 .ieq (.fn 65 r) (.il 12)) (.o2 .ieq (.fn 65 r) (.il 98))))), true)]
def inO (a b c d e f : SV) : CHeap := [(5, .cells 118 [b, c, d, e, i64 0, i64 32, .fn (.func 23) [] [], .ifc 52 (.ptr 4 (.c 0))]), (4, .cells 54 [a])]
/-- The loop of impl.Retry. -/
def im : LoopY where
  f := 12; key := 5; N := 76; r := 2000; base := 5000
  js := [11] ++ js 19 75
  hd := fun m => ⟨[(2, .sl 2 2 (.il 0) (.v 64)), (7, .ptr 4 (.c 0)), (8, .ifc 116 (.ptr 5 (.c 0))), (9, outS m r), (10, .int .i64 r)],
    inO (fv 1001 2000) (.bool (.fn 1004 r)) (fv 1005 2000) (.bool (.fn 1004 r)) (fv 1006 2000) .top ++ outO m r ++ [(2, ops)], 7, m0F m ++ stF ++ rangeF 0 big (.fn 1005 r) ++ rangeF 0 big (.fn 1006 r) ++ rangeF (-1099511627776) 1099511627776 (.v 0) ++ opF⟩
  ent := fun m => m0F m ++ stF ++ rangeF (-1099511627776) 1099511627776 (.v 0)
  mode := fun sl => match nth sl 2, nth sl 9 with | some (.sl 2 ..), some .nilsl => some 0 | some (.sl 2 ..), some (.sl ..) => some 1 | _, _ => none
  tgt := fun m => Nat.beq m 1
  hx := fun m => ⟨[(2, .sl 2 2 (.il 0) (.v 64)), (7, .top), (8, .top), (9, outS m (.v 64)), (10, .top)], outO m (.v 64) ++ [(2, ops)], 7, []⟩
  xm := fun _ sl => match nth sl 9 with | some .nilsl => some 0 | _ => some 1
  exN := fun _ => .exit 0
  exits := [(.o2 .ieq (.v 64) (.il 0), 0), (.bl true, 1)]
  fixed := [2]
  lt := .o2 .lt r (.v 64)
  X := XCtr.none
  fuel := 100; np := 60
/-- The law's look at the answers. -/
def cmO (m : Nat) : CHeap := match m with | 0 => [] | _ => [(2, .row 4 1 (.v 64) [.bool 1000] []), (1, .row 4 1 (.v 64) [.bool 1000] [])]
def cmS (m n : Nat) : SV := match m with | 0 => .nilsl | _ => .sl n 1 (.il 0) (.v 64)
def cmF (m : Nat) : Facts := match m with | 0 => [(.o2 .ieq (.v 64) (.il 0), true)] | _ => []
def cm : LoopY where
  f := 4; key := 15; N := 125; r := 2000; base := 5000
  js := [11] ++ js 101 113
  hd := fun m => ⟨[(6, .bool (.bl false)), (9, cmS m 1), (10, cmS m 2), (99, i64 64), (100, .int .i64 r)], cmO m, 3, cmF m ++ base⟩
  ent := fun m => cmF m ++ base
  mode := fun sl => match nth sl 9 with | some .nilsl => some 0 | some (.sl ..) => some 1 | _ => none
  tgt := fun m => Nat.beq m 1
  hx := fun m => ⟨[(6, .bool (.bl false)), (9, .top), (10, .top), (99, i64 64), (100, .top)], [], 3, []⟩
  xm := fun _ sl => some 0
  exN := fun _ => .exit 2
  exits := [(.bl true, 0)]
  fixed := []
  lt := .o2 .lt r (.v 64)
  X := XCtr.none
  fuel := 100; np := 60
def ctr : Ctr := ⟨[], [(4, 6, gd.lpP), (13, 5, sp.lpP), (12, 5, im.lpP), (4, 15, cm.lpP)]⟩
def argF : Facts := rangeF 0 80 (.v 64) ++ rangeF (-1099511627776) 1099511627776 (.v 0) ++ rangeF 0 1099511627776 (.v 32)
end Go.Proofs.Ytagpchabkplggaa.sxRetry
