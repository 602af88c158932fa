/-
  No cell of these rows narrows 'for every input' (looked for: loops, veiled, ifaces, maps, wideKeys, modest, calm, conditions, laid).
  DERIVED. THE GIVEN ROWS OF THIS SEAT. 4 by the template 'for every input the law returns true; each argument reads behind the call as it read before'; 0 by the template 'total and deterministic' (their statements: YtdlppkhmmclipaaGreatTotals.lean).
  GIVEN WITH THE SEED: the statements are not yours to turn. If you find one false, say at which input.
  Laid BY PROGRAM, IN A SANDBOX (cutbox-rows.mjs): the forced cells as the released guide's own fill.sh prints them over the translation 0f7fdbeffcfc68ef… (all of the seat's roots in one cut). By AI agents, Wed Nov 11 2026. No macro, syntax, notation, axiom, sorry.
-/
import Derived.Test.YtdlppkhmmclipaaGreatChecked
import GoSem.Claim
import GoSem.ClaimJoined
import GoSem.ClaimMapViews
import Derived.JoinedTies
import Derived.KernelRfl
namespace Go.Proofs.YtdlppkhmmclipaaGreat
/- THE CELL 'sum', in the pinned program and in every row, IS THE sha256 OF THE DUMP (.gsa) THAT YtdlppkhmmclipaaGreatProg.lean LOADS. Nothing in Lean hashes anything: it is a label: what it is worth is what the hold of that sum in a sandbox is worth. -/
noncomputable def Tryz.pinned : Pinned := { name := "ytdlppkhmmclipaagreat", sum := "0f7fdbeffcfc68efc1512a2fa4be7dceb0a5801973154b48e097f31bab9377b1", checked := Tryz.checked }
namespace Rows
def none {H : Type} : Left H := { results := [], args := [] }

/-- 'laws.FnHeap': WHATEVER THE INPUT: true; the input reads as it did. -/
def fnHeapSpec : ChangeSpec := { name := "fnHeap", fn := fun _ => fun
  | [d] => { results := [.lit (.bool true)], args := [d] }
  | _ => none }
def fnHeapRow : OpenClaim := { program := "ytdlppkhmmclipaagreat", sum := "0f7fdbeffcfc68efc1512a2fa4be7dceb0a5801973154b48e097f31bab9377b1", func := "pub-steersman/laws.FnHeap", spec := "fnHeap", unfollowed := true, recurses := true, apart := false }
def FnHeapSaid : Prop := fnHeapRow.holds Tryz.pinned (OpenSpec.ofChange fnHeapSpec)

/-- ITS FALSE NEIGHBOUR: 'it returns false'. Refute it at one input. -/
def fnHeapWrong : ChangeSpec := { name := "fnHeap", fn := fun _ => fun
  | [d] => { results := [.lit (.bool false)], args := [d] }
  | _ => none }
def FnHeapWrongFalsely : Prop := fnHeapRow.holds Tryz.pinned (OpenSpec.ofChange fnHeapWrong)

/-- 'laws.FnHeapSorts': WHATEVER THE INPUT: true; the input reads as it did. -/
def fnHeapSortsSpec : ChangeSpec := { name := "fnHeapSorts", fn := fun _ => fun
  | [d1, d2] => { results := [.lit (.bool true)], args := [d1, d2] }
  | _ => none }
def fnHeapSortsRow : OpenClaim := { program := "ytdlppkhmmclipaagreat", sum := "0f7fdbeffcfc68efc1512a2fa4be7dceb0a5801973154b48e097f31bab9377b1", func := "pub-steersman/laws.FnHeapSorts", spec := "fnHeapSorts", unfollowed := true, recurses := true, apart := false }
def FnHeapSortsSaid : Prop := fnHeapSortsRow.holds Tryz.pinned (OpenSpec.ofChange fnHeapSortsSpec)

/-- ITS FALSE NEIGHBOUR: 'it returns false'. Refute it at one input. -/
def fnHeapSortsWrong : ChangeSpec := { name := "fnHeapSorts", fn := fun _ => fun
  | [d1, d2] => { results := [.lit (.bool false)], args := [d1, d2] }
  | _ => none }
def FnHeapSortsWrongFalsely : Prop := fnHeapSortsRow.holds Tryz.pinned (OpenSpec.ofChange fnHeapSortsWrong)

/-- 'laws.FnExpiring': WHATEVER THE INPUT: true; the input reads as it did. -/
def fnExpiringSpec : ChangeSpec := { name := "fnExpiring", fn := fun _ => fun
  | [d1, d2] => { results := [.lit (.bool true)], args := [d1, d2] }
  | _ => none }
def fnExpiringRow : OpenClaim := { program := "ytdlppkhmmclipaagreat", sum := "0f7fdbeffcfc68efc1512a2fa4be7dceb0a5801973154b48e097f31bab9377b1", func := "pub-steersman/laws.FnExpiring", spec := "fnExpiring", unfollowed := true, recurses := true, apart := false }
def FnExpiringSaid : Prop := fnExpiringRow.holds Tryz.pinned (OpenSpec.ofChange fnExpiringSpec)

/-- ITS FALSE NEIGHBOUR: 'it returns false'. Refute it at one input. -/
def fnExpiringWrong : ChangeSpec := { name := "fnExpiring", fn := fun _ => fun
  | [d1, d2] => { results := [.lit (.bool false)], args := [d1, d2] }
  | _ => none }
def FnExpiringWrongFalsely : Prop := fnExpiringRow.holds Tryz.pinned (OpenSpec.ofChange fnExpiringWrong)

/-- 'laws.FnExpiringFresh': WHATEVER THE INPUT: true; the input reads as it did. -/
def fnExpiringFreshSpec : ChangeSpec := { name := "fnExpiringFresh", fn := fun _ => fun
  | [d1, d2, d3, d4] => { results := [.lit (.bool true)], args := [d1, d2, d3, d4] }
  | _ => none }
def fnExpiringFreshRow : OpenClaim := { program := "ytdlppkhmmclipaagreat", sum := "0f7fdbeffcfc68efc1512a2fa4be7dceb0a5801973154b48e097f31bab9377b1", func := "pub-steersman/laws.FnExpiringFresh", spec := "fnExpiringFresh", unfollowed := true, recurses := true, apart := false }
def FnExpiringFreshSaid : Prop := fnExpiringFreshRow.holds Tryz.pinned (OpenSpec.ofChange fnExpiringFreshSpec)

/-- ITS FALSE NEIGHBOUR: 'it returns false'. Refute it at one input. -/
def fnExpiringFreshWrong : ChangeSpec := { name := "fnExpiringFresh", fn := fun _ => fun
  | [d1, d2, d3, d4] => { results := [.lit (.bool false)], args := [d1, d2, d3, d4] }
  | _ => none }
def FnExpiringFreshWrongFalsely : Prop := fnExpiringFreshRow.holds Tryz.pinned (OpenSpec.ofChange fnExpiringFreshWrong)

/- THE SECOND FORM. 'bulk': how many values and letters a reading holds, each counted each time it is reached (what is shared counts as often as it is met; a slice's spare places count too). A statement '..UptoSaid' is the law's where the arguments, and the package variables that the reading takes, are together of bulk at most 1048576: NARROWER than '..Said'. Prove '..Said' where nothing that the law and all that it calls make is longer than what came in: it says more and counts as full. Else prove '..UptoSaid'. A law counts once. -/
mutual
def uptoBulk {H : Type} : DataW H → Nat
  | .lit (.string bytes) => bytes.length + 1
  | .lit _ => 1
  | .nil => 1
  | .ptr d => uptoBulk d + 1
  | .slice elems spare => uptoBulkAll elems + uptoBulkAll spare + 1
  | .agg parts => uptoBulkAll parts + 1
  | .iface _ d => uptoBulk d + 1
  | .map entries => uptoBulkEntries entries + 1
  | .held _ => 1
def uptoBulkAll {H : Type} : List (DataW H) → Nat
  | [] => 0
  | d :: r => uptoBulk d + uptoBulkAll r
def uptoBulkEntries {H : Type} : List (Lit × DataW H) → Nat
  | [] => 0
  | x :: r => uptoBulkEntry x + uptoBulkEntries r
def uptoBulkEntry {H : Type} : Lit × DataW H → Nat
  | (.string bytes, d) => bytes.length + uptoBulk d + 1
  | (_, d) => uptoBulk d + 1
 end
def uptoSmall : (H : Type) → List (DataW H) → Bool := fun _ ds => decide (uptoBulkAll ds ≤ 1048576)
def OpenSpec.upto (s : _root_.Go.ChangeSpec) : _root_.Go.OpenSpec := { _root_.Go.OpenSpec.ofChange s with cond := some uptoSmall }

/-- 'laws.FnHeap', WHERE WHAT IT READS IS OF BULK AT MOST 1048576: true; the input reads as it did. -/
def fnHeapUptoRow : OpenClaim := { program := "ytdlppkhmmclipaagreat", sum := "0f7fdbeffcfc68efc1512a2fa4be7dceb0a5801973154b48e097f31bab9377b1", func := "pub-steersman/laws.FnHeap", spec := "fnHeap", unfollowed := true, recurses := true, apart := false, narrowed := true }
def FnHeapUptoSaid : Prop := fnHeapUptoRow.holds Tryz.pinned (OpenSpec.upto fnHeapSpec)

/-- 'laws.FnHeapSorts', WHERE WHAT IT READS IS OF BULK AT MOST 1048576: true; the input reads as it did. -/
def fnHeapSortsUptoRow : OpenClaim := { program := "ytdlppkhmmclipaagreat", sum := "0f7fdbeffcfc68efc1512a2fa4be7dceb0a5801973154b48e097f31bab9377b1", func := "pub-steersman/laws.FnHeapSorts", spec := "fnHeapSorts", unfollowed := true, recurses := true, apart := false, narrowed := true }
def FnHeapSortsUptoSaid : Prop := fnHeapSortsUptoRow.holds Tryz.pinned (OpenSpec.upto fnHeapSortsSpec)

/-- 'laws.FnExpiring', WHERE WHAT IT READS IS OF BULK AT MOST 1048576: true; the input reads as it did. -/
def fnExpiringUptoRow : OpenClaim := { program := "ytdlppkhmmclipaagreat", sum := "0f7fdbeffcfc68efc1512a2fa4be7dceb0a5801973154b48e097f31bab9377b1", func := "pub-steersman/laws.FnExpiring", spec := "fnExpiring", unfollowed := true, recurses := true, apart := false, narrowed := true }
def FnExpiringUptoSaid : Prop := fnExpiringUptoRow.holds Tryz.pinned (OpenSpec.upto fnExpiringSpec)

/-- 'laws.FnExpiringFresh', WHERE WHAT IT READS IS OF BULK AT MOST 1048576: true; the input reads as it did. -/
def fnExpiringFreshUptoRow : OpenClaim := { program := "ytdlppkhmmclipaagreat", sum := "0f7fdbeffcfc68efc1512a2fa4be7dceb0a5801973154b48e097f31bab9377b1", func := "pub-steersman/laws.FnExpiringFresh", spec := "fnExpiringFresh", unfollowed := true, recurses := true, apart := false, narrowed := true }
def FnExpiringFreshUptoSaid : Prop := fnExpiringFreshUptoRow.holds Tryz.pinned (OpenSpec.upto fnExpiringFreshSpec)

end Rows
end Go.Proofs.YtdlppkhmmclipaaGreat
