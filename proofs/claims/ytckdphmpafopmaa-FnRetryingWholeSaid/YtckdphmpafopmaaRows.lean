/-
  No cell of these rows narrows 'for every input' (looked for: loops, veiled, ifaces, maps, wideKeys, modest, calm, conditions, laid).
  DERIVED. THE GIVEN ROWS OF THIS SEAT. 3 by the template 'for every input the law returns true; each argument reads behind the call as it read before'; 0 by the template 'total and deterministic' (their statements: YtckdphmpafopmaaTotals.lean).
  GIVEN WITH THE SEED: the statements are not yours to turn. If you find one false, say at which input.
  Laid BY PROGRAM, IN A SANDBOX (cutbox-rows.mjs): the forced cells as the released guide's own fill.sh prints them over the translation 3b9826ae23b908f9… (all of the seat's roots in one cut). By AI agents, Wed Nov 11 2026. No macro, syntax, notation, axiom, sorry.
-/
import Derived.Test.YtckdphmpafopmaaChecked
import GoSem.Claim
import GoSem.ClaimJoined
import GoSem.ClaimMapViews
import Derived.JoinedTies
import Derived.KernelRfl
namespace Go.Proofs.Ytckdphmpafopmaa
/- THE CELL 'sum', in the pinned program and in every row, IS THE sha256 OF THE DUMP (.gsa) THAT YtckdphmpafopmaaProg.lean LOADS. Nothing in Lean hashes anything: it is a label: what it is worth is what the hold of that sum in a sandbox is worth. -/
noncomputable def Try.pinned : Pinned := { name := "ytckdphmpafopmaa", sum := "3b9826ae23b908f9bf44f4537c7c359e2f004cbbb3c92ed8ebedbfbc900e1c8e", checked := Try.checked }
namespace Rows
def none {H : Type} : Left H := { results := [], args := [] }

/-- 'laws.FnRetryingEnds': WHATEVER THE INPUT: true; the input reads as it did. -/
def fnRetryingEndsSpec : ChangeSpec := { name := "fnRetryingEnds", fn := fun _ => fun
  | [d1, d2] => { results := [.lit (.bool true)], args := [d1, d2] }
  | _ => none }
def fnRetryingEndsRow : OpenClaim := { program := "ytckdphmpafopmaa", sum := "3b9826ae23b908f9bf44f4537c7c359e2f004cbbb3c92ed8ebedbfbc900e1c8e", func := "pub-steersman/laws.FnRetryingEnds", spec := "fnRetryingEnds", unfollowed := true, recurses := true, apart := false }
def FnRetryingEndsSaid : Prop := fnRetryingEndsRow.holds Try.pinned (OpenSpec.ofChange fnRetryingEndsSpec)

/-- ITS FALSE NEIGHBOUR: 'it returns false'. Refute it at one input. -/
def fnRetryingEndsWrong : ChangeSpec := { name := "fnRetryingEnds", fn := fun _ => fun
  | [d1, d2] => { results := [.lit (.bool false)], args := [d1, d2] }
  | _ => none }
def FnRetryingEndsWrongFalsely : Prop := fnRetryingEndsRow.holds Try.pinned (OpenSpec.ofChange fnRetryingEndsWrong)

/-- 'laws.FnRetrying': WHATEVER THE INPUT: true; the input reads as it did. -/
def fnRetryingSpec : ChangeSpec := { name := "fnRetrying", fn := fun _ => fun
  | [d1, d2] => { results := [.lit (.bool true)], args := [d1, d2] }
  | _ => none }
def fnRetryingRow : OpenClaim := { program := "ytckdphmpafopmaa", sum := "3b9826ae23b908f9bf44f4537c7c359e2f004cbbb3c92ed8ebedbfbc900e1c8e", func := "pub-steersman/laws.FnRetrying", spec := "fnRetrying", unfollowed := true, recurses := true, apart := false }
def FnRetryingSaid : Prop := fnRetryingRow.holds Try.pinned (OpenSpec.ofChange fnRetryingSpec)

/-- ITS FALSE NEIGHBOUR: 'it returns false'. Refute it at one input. -/
def fnRetryingWrong : ChangeSpec := { name := "fnRetrying", fn := fun _ => fun
  | [d1, d2] => { results := [.lit (.bool false)], args := [d1, d2] }
  | _ => none }
def FnRetryingWrongFalsely : Prop := fnRetryingRow.holds Try.pinned (OpenSpec.ofChange fnRetryingWrong)

/-- 'laws.FnRetryingWhole': WHATEVER THE INPUT: true; the input reads as it did. -/
def fnRetryingWholeSpec : ChangeSpec := { name := "fnRetryingWhole", fn := fun _ => fun
  | [d1, d2, d3] => { results := [.lit (.bool true)], args := [d1, d2, d3] }
  | _ => none }
def fnRetryingWholeRow : OpenClaim := { program := "ytckdphmpafopmaa", sum := "3b9826ae23b908f9bf44f4537c7c359e2f004cbbb3c92ed8ebedbfbc900e1c8e", func := "pub-steersman/laws.FnRetryingWhole", spec := "fnRetryingWhole", unfollowed := true, recurses := true, apart := false }
def FnRetryingWholeSaid : Prop := fnRetryingWholeRow.holds Try.pinned (OpenSpec.ofChange fnRetryingWholeSpec)

/-- ITS FALSE NEIGHBOUR: 'it returns false'. Refute it at one input. -/
def fnRetryingWholeWrong : ChangeSpec := { name := "fnRetryingWhole", fn := fun _ => fun
  | [d1, d2, d3] => { results := [.lit (.bool false)], args := [d1, d2, d3] }
  | _ => none }
def FnRetryingWholeWrongFalsely : Prop := fnRetryingWholeRow.holds Try.pinned (OpenSpec.ofChange fnRetryingWholeWrong)

/- THE SECOND FORM. 'bulk': how many values and letters a reading holds, each counted each time it is reached (what is shared counts as often as it is met; a slice's spare places count too). A statement '..UptoSaid' is the law's where the arguments, and the package variables that the reading takes, are together of bulk at most 1048576: NARROWER than '..Said'. Prove '..Said' where nothing that the law and all that it calls make is longer than what came in: it says more and counts as full. Else prove '..UptoSaid'. A law counts once. -/
mutual
def uptoBulk {H : Type} : DataW H → Nat
  | .lit (.string bytes) => bytes.length + 1
  | .lit _ => 1
  | .nil => 1
  | .ptr d => uptoBulk d + 1
  | .slice elems spare => uptoBulkAll elems + uptoBulkAll spare + 1
  | .agg parts => uptoBulkAll parts + 1
  | .iface _ d => uptoBulk d + 1
  | .map entries => uptoBulkEntries entries + 1
  | .held _ => 1
def uptoBulkAll {H : Type} : List (DataW H) → Nat
  | [] => 0
  | d :: r => uptoBulk d + uptoBulkAll r
def uptoBulkEntries {H : Type} : List (Lit × DataW H) → Nat
  | [] => 0
  | x :: r => uptoBulkEntry x + uptoBulkEntries r
def uptoBulkEntry {H : Type} : Lit × DataW H → Nat
  | (.string bytes, d) => bytes.length + uptoBulk d + 1
  | (_, d) => uptoBulk d + 1
 end
def uptoSmall : (H : Type) → List (DataW H) → Bool := fun _ ds => decide (uptoBulkAll ds ≤ 1048576)
def OpenSpec.upto (s : _root_.Go.ChangeSpec) : _root_.Go.OpenSpec := { _root_.Go.OpenSpec.ofChange s with cond := some uptoSmall }

/-- 'laws.FnRetryingEnds', WHERE WHAT IT READS IS OF BULK AT MOST 1048576: true; the input reads as it did. -/
def fnRetryingEndsUptoRow : OpenClaim := { program := "ytckdphmpafopmaa", sum := "3b9826ae23b908f9bf44f4537c7c359e2f004cbbb3c92ed8ebedbfbc900e1c8e", func := "pub-steersman/laws.FnRetryingEnds", spec := "fnRetryingEnds", unfollowed := true, recurses := true, apart := false, narrowed := true }
def FnRetryingEndsUptoSaid : Prop := fnRetryingEndsUptoRow.holds Try.pinned (OpenSpec.upto fnRetryingEndsSpec)

/-- 'laws.FnRetrying', WHERE WHAT IT READS IS OF BULK AT MOST 1048576: true; the input reads as it did. -/
def fnRetryingUptoRow : OpenClaim := { program := "ytckdphmpafopmaa", sum := "3b9826ae23b908f9bf44f4537c7c359e2f004cbbb3c92ed8ebedbfbc900e1c8e", func := "pub-steersman/laws.FnRetrying", spec := "fnRetrying", unfollowed := true, recurses := true, apart := false, narrowed := true }
def FnRetryingUptoSaid : Prop := fnRetryingUptoRow.holds Try.pinned (OpenSpec.upto fnRetryingSpec)

/-- 'laws.FnRetryingWhole', WHERE WHAT IT READS IS OF BULK AT MOST 1048576: true; the input reads as it did. -/
def fnRetryingWholeUptoRow : OpenClaim := { program := "ytckdphmpafopmaa", sum := "3b9826ae23b908f9bf44f4537c7c359e2f004cbbb3c92ed8ebedbfbc900e1c8e", func := "pub-steersman/laws.FnRetryingWhole", spec := "fnRetryingWhole", unfollowed := true, recurses := true, apart := false, narrowed := true }
def FnRetryingWholeUptoSaid : Prop := fnRetryingWholeUptoRow.holds Try.pinned (OpenSpec.upto fnRetryingWholeSpec)

end Rows
end Go.Proofs.Ytckdphmpafopmaa
