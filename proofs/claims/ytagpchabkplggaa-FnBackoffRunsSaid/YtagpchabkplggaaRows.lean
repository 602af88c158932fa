/-
  No cell of these rows narrows 'for every input' (looked for: loops, veiled, ifaces, maps, wideKeys, modest, calm, conditions, laid).
  DERIVED. THE GIVEN ROWS OF THIS SEAT. 4 by the template 'for every input the law returns true; each argument reads behind the call as it read before'; 0 by the template 'total and deterministic' (their statements: YtagpchabkplggaaTotals.lean).
  GIVEN WITH THE SEED: the statements are not yours to turn. If you find one false, say at which input.
  Laid BY PROGRAM, IN A SANDBOX (cutbox-rows.mjs): the forced cells as the released guide's own fill.sh prints them over the translation 94b65073adfab175… (all of the seat's roots in one cut). By AI agents, Wed Nov 11 2026. No macro, syntax, notation, axiom, sorry.
-/
import Derived.Test.YtagpchabkplggaaChecked
import GoSem.Claim
import GoSem.ClaimJoined
import GoSem.ClaimMapViews
import Derived.JoinedTies
import Derived.KernelRfl
namespace Go.Proofs.Ytagpchabkplggaa
/- THE CELL 'sum', in the pinned program and in every row, IS THE sha256 OF THE DUMP (.gsa) THAT YtagpchabkplggaaProg.lean LOADS. Nothing in Lean hashes anything: it is a label: what it is worth is what the hold of that sum in a sandbox is worth. -/
noncomputable def Try.pinned : Pinned := { name := "ytagpchabkplggaa", sum := "94b65073adfab175bb85a29b122ab168fcf7a3c1c88c8bda936b8b7772bdb24b", checked := Try.checked }
namespace Rows
def none {H : Type} : Left H := { results := [], args := [] }

/-- 'laws.FnElects': WHATEVER THE INPUT: true; the input reads as it did. -/
def fnElectsSpec : ChangeSpec := { name := "fnElects", fn := fun _ => fun
  | [d] => { results := [.lit (.bool true)], args := [d] }
  | _ => none }
def fnElectsRow : OpenClaim := { program := "ytagpchabkplggaa", sum := "94b65073adfab175bb85a29b122ab168fcf7a3c1c88c8bda936b8b7772bdb24b", func := "pub-steersman/laws.FnElects", spec := "fnElects", unfollowed := true, recurses := true, apart := false }
def FnElectsSaid : Prop := fnElectsRow.holds Try.pinned (OpenSpec.ofChange fnElectsSpec)

/-- ITS FALSE NEIGHBOUR: 'it returns false'. Refute it at one input. -/
def fnElectsWrong : ChangeSpec := { name := "fnElects", fn := fun _ => fun
  | [d] => { results := [.lit (.bool false)], args := [d] }
  | _ => none }
def FnElectsWrongFalsely : Prop := fnElectsRow.holds Try.pinned (OpenSpec.ofChange fnElectsWrong)

/-- 'laws.FnRetry': WHATEVER THE INPUT: true; the input reads as it did. -/
def fnRetrySpec : ChangeSpec := { name := "fnRetry", fn := fun _ => fun
  | [d1, d2, d3] => { results := [.lit (.bool true)], args := [d1, d2, d3] }
  | _ => none }
def fnRetryRow : OpenClaim := { program := "ytagpchabkplggaa", sum := "94b65073adfab175bb85a29b122ab168fcf7a3c1c88c8bda936b8b7772bdb24b", func := "pub-steersman/laws.FnRetry", spec := "fnRetry", unfollowed := true, recurses := true, apart := false }
def FnRetrySaid : Prop := fnRetryRow.holds Try.pinned (OpenSpec.ofChange fnRetrySpec)

/-- ITS FALSE NEIGHBOUR: 'it returns false'. Refute it at one input. -/
def fnRetryWrong : ChangeSpec := { name := "fnRetry", fn := fun _ => fun
  | [d1, d2, d3] => { results := [.lit (.bool false)], args := [d1, d2, d3] }
  | _ => none }
def FnRetryWrongFalsely : Prop := fnRetryRow.holds Try.pinned (OpenSpec.ofChange fnRetryWrong)

/-- 'laws.FnBackoffRuns': WHATEVER THE INPUT: true; the input reads as it did. -/
def fnBackoffRunsSpec : ChangeSpec := { name := "fnBackoffRuns", fn := fun _ => fun
  | [d1, d2, d3, d4] => { results := [.lit (.bool true)], args := [d1, d2, d3, d4] }
  | _ => none }
def fnBackoffRunsRow : OpenClaim := { program := "ytagpchabkplggaa", sum := "94b65073adfab175bb85a29b122ab168fcf7a3c1c88c8bda936b8b7772bdb24b", func := "pub-steersman/laws.FnBackoffRuns", spec := "fnBackoffRuns", unfollowed := true, recurses := true, apart := false }
def FnBackoffRunsSaid : Prop := fnBackoffRunsRow.holds Try.pinned (OpenSpec.ofChange fnBackoffRunsSpec)

/-- ITS FALSE NEIGHBOUR: 'it returns false'. Refute it at one input. -/
def fnBackoffRunsWrong : ChangeSpec := { name := "fnBackoffRuns", fn := fun _ => fun
  | [d1, d2, d3, d4] => { results := [.lit (.bool false)], args := [d1, d2, d3, d4] }
  | _ => none }
def FnBackoffRunsWrongFalsely : Prop := fnBackoffRunsRow.holds Try.pinned (OpenSpec.ofChange fnBackoffRunsWrong)

/-- 'laws.FnBackoffAnswers': WHATEVER THE INPUT: true; the input reads as it did. -/
def fnBackoffAnswersSpec : ChangeSpec := { name := "fnBackoffAnswers", fn := fun _ => fun
  | [d1, d2, d3] => { results := [.lit (.bool true)], args := [d1, d2, d3] }
  | _ => none }
def fnBackoffAnswersRow : OpenClaim := { program := "ytagpchabkplggaa", sum := "94b65073adfab175bb85a29b122ab168fcf7a3c1c88c8bda936b8b7772bdb24b", func := "pub-steersman/laws.FnBackoffAnswers", spec := "fnBackoffAnswers", unfollowed := true, recurses := true, apart := false }
def FnBackoffAnswersSaid : Prop := fnBackoffAnswersRow.holds Try.pinned (OpenSpec.ofChange fnBackoffAnswersSpec)

/-- ITS FALSE NEIGHBOUR: 'it returns false'. Refute it at one input. -/
def fnBackoffAnswersWrong : ChangeSpec := { name := "fnBackoffAnswers", fn := fun _ => fun
  | [d1, d2, d3] => { results := [.lit (.bool false)], args := [d1, d2, d3] }
  | _ => none }
def FnBackoffAnswersWrongFalsely : Prop := fnBackoffAnswersRow.holds Try.pinned (OpenSpec.ofChange fnBackoffAnswersWrong)

/- THE SECOND FORM. 'bulk': how many values and letters a reading holds, each counted each time it is reached (what is shared counts as often as it is met; a slice's spare places count too). A statement '..UptoSaid' is the law's where the arguments, and the package variables that the reading takes, are together of bulk at most 1048576: NARROWER than '..Said'. Prove '..Said' where nothing that the law and all that it calls make is longer than what came in: it says more and counts as full. Else prove '..UptoSaid'. A law counts once. -/
mutual
def uptoBulk {H : Type} : DataW H → Nat
  | .lit (.string bytes) => bytes.length + 1
  | .lit _ => 1
  | .nil => 1
  | .ptr d => uptoBulk d + 1
  | .slice elems spare => uptoBulkAll elems + uptoBulkAll spare + 1
  | .agg parts => uptoBulkAll parts + 1
  | .iface _ d => uptoBulk d + 1
  | .map entries => uptoBulkEntries entries + 1
  | .held _ => 1
def uptoBulkAll {H : Type} : List (DataW H) → Nat
  | [] => 0
  | d :: r => uptoBulk d + uptoBulkAll r
def uptoBulkEntries {H : Type} : List (Lit × DataW H) → Nat
  | [] => 0
  | x :: r => uptoBulkEntry x + uptoBulkEntries r
def uptoBulkEntry {H : Type} : Lit × DataW H → Nat
  | (.string bytes, d) => bytes.length + uptoBulk d + 1
  | (_, d) => uptoBulk d + 1
 end
def uptoSmall : (H : Type) → List (DataW H) → Bool := fun _ ds => decide (uptoBulkAll ds ≤ 1048576)
def OpenSpec.upto (s : _root_.Go.ChangeSpec) : _root_.Go.OpenSpec := { _root_.Go.OpenSpec.ofChange s with cond := some uptoSmall }

/-- 'laws.FnElects', WHERE WHAT IT READS IS OF BULK AT MOST 1048576: true; the input reads as it did. -/
def fnElectsUptoRow : OpenClaim := { program := "ytagpchabkplggaa", sum := "94b65073adfab175bb85a29b122ab168fcf7a3c1c88c8bda936b8b7772bdb24b", func := "pub-steersman/laws.FnElects", spec := "fnElects", unfollowed := true, recurses := true, apart := false, narrowed := true }
def FnElectsUptoSaid : Prop := fnElectsUptoRow.holds Try.pinned (OpenSpec.upto fnElectsSpec)

/-- 'laws.FnRetry', WHERE WHAT IT READS IS OF BULK AT MOST 1048576: true; the input reads as it did. -/
def fnRetryUptoRow : OpenClaim := { program := "ytagpchabkplggaa", sum := "94b65073adfab175bb85a29b122ab168fcf7a3c1c88c8bda936b8b7772bdb24b", func := "pub-steersman/laws.FnRetry", spec := "fnRetry", unfollowed := true, recurses := true, apart := false, narrowed := true }
def FnRetryUptoSaid : Prop := fnRetryUptoRow.holds Try.pinned (OpenSpec.upto fnRetrySpec)

/-- 'laws.FnBackoffRuns', WHERE WHAT IT READS IS OF BULK AT MOST 1048576: true; the input reads as it did. -/
def fnBackoffRunsUptoRow : OpenClaim := { program := "ytagpchabkplggaa", sum := "94b65073adfab175bb85a29b122ab168fcf7a3c1c88c8bda936b8b7772bdb24b", func := "pub-steersman/laws.FnBackoffRuns", spec := "fnBackoffRuns", unfollowed := true, recurses := true, apart := false, narrowed := true }
def FnBackoffRunsUptoSaid : Prop := fnBackoffRunsUptoRow.holds Try.pinned (OpenSpec.upto fnBackoffRunsSpec)

/-- 'laws.FnBackoffAnswers', WHERE WHAT IT READS IS OF BULK AT MOST 1048576: true; the input reads as it did. -/
def fnBackoffAnswersUptoRow : OpenClaim := { program := "ytagpchabkplggaa", sum := "94b65073adfab175bb85a29b122ab168fcf7a3c1c88c8bda936b8b7772bdb24b", func := "pub-steersman/laws.FnBackoffAnswers", spec := "fnBackoffAnswers", unfollowed := true, recurses := true, apart := false, narrowed := true }
def FnBackoffAnswersUptoSaid : Prop := fnBackoffAnswersUptoRow.holds Try.pinned (OpenSpec.upto fnBackoffAnswersSpec)

end Rows
end Go.Proofs.Ytagpchabkplggaa
