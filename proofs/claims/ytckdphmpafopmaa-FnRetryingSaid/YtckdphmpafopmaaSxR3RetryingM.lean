/-
  THE LAWS FnRetrying*: what their loops compute.
-/
import Derived.Test.YtckdphmpafopmaaSxR3RetryingA
namespace Go.Proofs.Ytckdphmpafopmaa.sxRetrying
open Go.Sx Go.RowKit
set_option linter.unusedVariables false

/-- One of some things that stand as one. -/
def ar (d : Dv) (k : Nat) : Dv := cc (row d 0) k
theorem ar_0 {a b : Dv} : ar (O2.den .cel a b) 0 = a := id rfl
theorem ar_s {a b : Dv} {k : Nat} : ar (O2.den .cel a b) (k + 1) = ar b k := by
  show cc (a :: b.T.head?.getD []) (k + 1) = cc ((b.T[0]?).getD []) k
  rw [List.head?_eq_getElem?]; rfl
theorem ar_1 {a b c : Dv} : ar (O2.den .cel a (O2.den .cel b c)) 1 = b := id rfl
theorem ar_2 {a b c d : Dv} : ar (O2.den .cel a (O2.den .cel b (O2.den .cel c d))) 2 = c := id rfl

/-! ### guards -/
def most (z : Int) : Bool := decide (2147483647 < z)
def bad6 (l : List Dv) : Bool := most ((cc l 0).S.size : Int) || most ((cc l 1).S.size : Int)
def B6 (d : Dv) (i : Nat) : Bool := bad6 (row d i)
def bad31 (l : List Dv) : Bool :=
  most ((cc l 2).S.size : Int) || most ((cc l 3).S.size : Int) || most ((cc l 4).S.size : Int) || most ((cc l 5).S.size : Int) || most ((cc l 6).T.length : Int) || anyB (B6 (cc l 6)) (cc l 6).T.length || most ((cc l 7).S.size : Int)
def B31 (d : Dv) (i : Nat) : Bool := bad31 (row d i)
def Bdup (d key : Dv) (i : Nat) : Bool := (cc (row d i) 0).S.toList == key.S.toList
def Bpairs (d : Dv) (i : Nat) : Bool := decide (40 < ((cc (row d i) 0).S.size : Int)) || decide (40 < ((cc (row d i) 1).S.size : Int)) || anyB (Bdup (.t (d.T.take i)) (cc (row d i) 0)) (d.T.take i).length
/-- Is an operation one of which the laws speak? -/
def okStep (l : List Dv) : Bool :=
  decide (1 ≤ (cc l 0).I) && decide ((cc l 0).I ≤ 5) && decide (((cc l 2).S.size : Int) ≤ 20) && decide (((cc l 3).S.size : Int) ≤ 20) && decide (((cc l 4).S.size : Int) ≤ 20) && decide (((cc l 5).S.size : Int) ≤ 20) &&
  decide (((cc l 7).S.size : Int) ≤ 40) && decide (((cc l 6).T.length : Int) ≤ 4) && !anyB (Bpairs (cc l 6)) (cc l 6).T.length && !(cc l 9).B && !(cc l 8).B && decide (0 ≤ (cc l 11).I) && decide ((cc l 11).I ≤ 1000000) &&
  (!decide ((cc l 0).I = 2) || decide ((cc l 10).I = 8) || decide ((cc l 10).I = 17) || decide ((cc l 10).I = 19) || decide ((cc l 10).I = 18) || decide ((cc l 10).I = 98)) &&
  (!decide ((cc l 0).I = 4) || decide ((cc l 10).I = 17) || decide ((cc l 10).I = 12) || decide ((cc l 10).I = 18) || decide ((cc l 10).I = 98)) &&
  (!decide ((cc l 0).I = 3) || decide ((cc l 1).I = 1) || decide ((cc l 1).I = 2) || decide ((cc l 1).I = 3) || decide ((cc l 1).I = 8))
def B9 (d : Dv) (i : Nat) : Bool := !okStep (row d i)

/-! ### impl.Retrying -/
structure St where
  rv : ByteArray
  op : Bool
  dn : Bool
def nos : ByteArray := ⟨#[]⟩
def errRow (n : Int) : List Dv := [.i 0, .i n, .s nos, .s nos, .s nos, .s nos, .i 0, .s nos, .b false, .b false]
def evRow (t : Int) (l : List Dv) : List Dv := [.i t, .i 0, cc l 2, cc l 3, cc l 4, cc l 5, cc l 6, cc l 7, cc l 8, cc l 9]
def idle : List Dv := [.t [], .b false, .s nos, .b false, .i 0]
def stepW (s : St) (l : List Dv) : St × List Dv :=
  if s.dn = true then (s, idle)
  else if (cc l 0).I = 1 then (if s.op = true then (s, idle) else (⟨s.rv, true, false⟩, [.t [], .b true, .s s.rv, .b false, .i 0]))
  else if (cc l 0).I = 2 then
    (if s.op = true then (s, idle)
    else if (cc l 10).I = 19 then (⟨s.rv, false, true⟩, [.t [errRow 19], .b true, .s s.rv, .b true, .i 0])
    else (⟨s.rv, false, false⟩, [.t [], .b true, .s s.rv, .b false, .i 0]))
  else if s.op = false then (s, idle)
  else if (cc l 0).I = 3 then
    (if (cc l 5).S.toList = [] then (⟨s.rv, false, true⟩, [.t [errRow 12], .b false, .s nos, .b true, .i 0])
    else if (cc l 1).I = 1 ∨ (cc l 1).I = 2 ∨ (cc l 1).I = 3 then (⟨(cc l 5).S, true, false⟩, [.t [evRow (cc l 1).I l], .b false, .s nos, .b false, .i 0])
    else (⟨(cc l 5).S, true, false⟩, idle))
  else if (cc l 0).I = 4 then
    (if (cc l 10).I = 17 then (⟨s.rv, false, true⟩, [.t [errRow 17], .b false, .s nos, .b true, .i 0])
    else (⟨s.rv, false, false⟩, [.t [], .b false, .s nos, .b false, .i (cc l 11).I]))
  else (⟨s.rv, false, false⟩, idle)
def stAt (rv : ByteArray) (rows : List (List Dv)) : Nat → St
  | 0 => ⟨rv, false, false⟩
  | i + 1 => (stepW (stAt rv rows i) ((rows[i]?).getD [])).1
def ansAt (rv : ByteArray) (rows : List (List Dv)) (i : Nat) : List Dv := (stepW (stAt rv rows i) ((rows[i]?).getD [])).2
/-- What FnRetryingEnds takes for open. -/
def opAt (rv : ByteArray) (rows : List (List Dv)) : Nat → Bool
  | 0 => false
  | i + 1 =>
    if (stAt rv rows i).dn = true then opAt rv rows i
    else if (cc ((rows[i]?).getD []) 0).I = 1 then true
    else if (cc ((rows[i]?).getD []) 0).I = 4 ∨ (cc ((rows[i]?).getD []) 0).I = 5 then false
    else opAt rv rows i
def answers (rv : ByteArray) (rows : List (List Dv)) : Dv := .t ((List.range rows.length).map (ansAt rv rows))

/-! ### FnRetrying: looks at answers -/
def Bix (d k v : Dv) (i : Nat) : Bool := (k.S.toList == (cc (row d i) 0).S.toList) && (v.S.toList == (cc (row d i) 1).S.toList)
def Bsl (d : Dv) (i : Nat) : Bool := !anyB (Bix d (cc (row d i) 0) (cc (row d i) 1)) d.T.length
/-- What was sent: its objects have few labels. -/
def okSent (d : Dv) : Bool := !anyB (fun i => decide (80 < ((cc (row d i) 6).T.length : Int))) d.T.length
def okAns (d : Dv) : Bool := !anyB (fun i => !(okSent (cc (row d i) 0)) || decide (80 < ((cc (row d i) 0).T.length : Int))) d.T.length

/-- Operations' types are numbers. -/
def isI : Dv → Bool
  | .i _ => true
  | _ => false
def plainTy (d : Dv) : Bool := !anyB (fun i => !isI (cc (row d i) 1)) d.T.length

def UF (c : Nat) (d : Dv) : Dv :=
  match c with
  | 1 => .b (anyB (B6 (ar d 0)) (ar d 0).T.length)
  | 2 => .i (stop (B6 (ar d 0)) (ar d 0).T.length)
  | 3 => .b (anyB (B31 (ar d 0)) (ar d 0).T.length)
  | 4 => .i (stop (B31 (ar d 0)) (ar d 0).T.length)
  | 5 => .b (anyB (Bdup (ar d 0) (ar d 1)) (ar d 0).T.length)
  | 6 => .i (stop (Bdup (ar d 0) (ar d 1)) (ar d 0).T.length)
  | 7 => .b (anyB (Bpairs (ar d 0)) (ar d 0).T.length)
  | 8 => .i (stop (Bpairs (ar d 0)) (ar d 0).T.length)
  | 9 => .b (anyB (B9 (ar d 0)) (ar d 0).T.length)
  | 10 => .i (stop (B9 (ar d 0)) (ar d 0).T.length)
  | 20 => .s (stAt (ar d 0).S (ar d 1).T (ar d 2).I.toNat).rv
  | 21 => .b (stAt (ar d 0).S (ar d 1).T (ar d 2).I.toNat).op
  | 22 => .b (stAt (ar d 0).S (ar d 1).T (ar d 2).I.toNat).dn
  | 23 => .b (opAt (ar d 0).S (ar d 1).T (ar d 2).I.toNat)
  | 30 => answers (ar d 0).S (ar d 1).T
  | 60 => .b (anyB (Bix (ar d 0) (ar d 1) (ar d 2)) (ar d 0).T.length)
  | 61 => .i (stop (Bix (ar d 0) (ar d 1) (ar d 2)) (ar d 0).T.length)
  | 62 => .b (anyB (Bsl (ar d 0)) (ar d 0).T.length)
  | 63 => .i (stop (Bsl (ar d 0)) (ar d 0).T.length)
  | 64 => .b (okSent (ar d 0))
  | 65 => .b (okAns (ar d 0))
  | 66 => .b (plainTy (ar d 0))
  | _ => .i 0
theorem UF_1 (d : Dv) : UF 1 d = .b (anyB (B6 (ar d 0)) (ar d 0).T.length) := id rfl
theorem UF_2 (d : Dv) : UF 2 d = .i (stop (B6 (ar d 0)) (ar d 0).T.length) := id rfl
theorem UF_3 (d : Dv) : UF 3 d = .b (anyB (B31 (ar d 0)) (ar d 0).T.length) := id rfl
theorem UF_4 (d : Dv) : UF 4 d = .i (stop (B31 (ar d 0)) (ar d 0).T.length) := id rfl
theorem UF_5 (d : Dv) : UF 5 d = .b (anyB (Bdup (ar d 0) (ar d 1)) (ar d 0).T.length) := id rfl
theorem UF_6 (d : Dv) : UF 6 d = .i (stop (Bdup (ar d 0) (ar d 1)) (ar d 0).T.length) := id rfl
theorem UF_7 (d : Dv) : UF 7 d = .b (anyB (Bpairs (ar d 0)) (ar d 0).T.length) := id rfl
theorem UF_8 (d : Dv) : UF 8 d = .i (stop (Bpairs (ar d 0)) (ar d 0).T.length) := id rfl
theorem UF_9 (d : Dv) : UF 9 d = .b (anyB (B9 (ar d 0)) (ar d 0).T.length) := id rfl
theorem UF_10 (d : Dv) : UF 10 d = .i (stop (B9 (ar d 0)) (ar d 0).T.length) := id rfl
theorem UF_20 (d : Dv) : UF 20 d = .s (stAt (ar d 0).S (ar d 1).T (ar d 2).I.toNat).rv := id rfl
theorem UF_21 (d : Dv) : UF 21 d = .b (stAt (ar d 0).S (ar d 1).T (ar d 2).I.toNat).op := id rfl
theorem UF_22 (d : Dv) : UF 22 d = .b (stAt (ar d 0).S (ar d 1).T (ar d 2).I.toNat).dn := id rfl
theorem UF_23 (d : Dv) : UF 23 d = .b (opAt (ar d 0).S (ar d 1).T (ar d 2).I.toNat) := id rfl
theorem UF_60 (d : Dv) : UF 60 d = .b (anyB (Bix (ar d 0) (ar d 1) (ar d 2)) (ar d 0).T.length) := id rfl
theorem UF_61 (d : Dv) : UF 61 d = .i (stop (Bix (ar d 0) (ar d 1) (ar d 2)) (ar d 0).T.length) := id rfl
theorem UF_62 (d : Dv) : UF 62 d = .b (anyB (Bsl (ar d 0)) (ar d 0).T.length) := id rfl
theorem UF_63 (d : Dv) : UF 63 d = .i (stop (Bsl (ar d 0)) (ar d 0).T.length) := id rfl
theorem UF_64 (d : Dv) : UF 64 d = .b (okSent (ar d 0)) := id rfl
theorem UF_65 (d : Dv) : UF 65 d = .b (okAns (ar d 0)) := id rfl
theorem UF_66 (d : Dv) : UF 66 d = .b (plainTy (ar d 0)) := id rfl
theorem UF_30 (d : Dv) : UF 30 d = answers (ar d 0).S (ar d 1).T := id rfl
end Go.Proofs.Ytckdphmpafopmaa.sxRetrying
