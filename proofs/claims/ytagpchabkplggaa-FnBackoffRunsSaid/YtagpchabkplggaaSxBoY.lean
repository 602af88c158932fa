/-
  THE LAW FnBackoffRuns (proved): an ID waits the first wait doubled from event to event, or the greatest one, and begins anew behind a gap; whatever else goes on. No conditions beside the law's own guards.
-/
import Derived.Test.YtagpchabkplggaaSxBoA
import Derived.Test.YtagpchabkplggaaSxBoK
import Derived.Test.YtagpchabkplggaaSxMLoopH
namespace Go.Proofs.Ytagpchabkplggaa.sxBackoff
open Go.Sx
set_option linter.unusedVariables false
abbrev br0 : E := .o2 .lt (.o2 (.cell 0) (.v 7600) (.v 2024)) (.il 0)
abbrev br1 : E := .o2 .lt (.v 2024) (.o1 .tlen (.v 7600))
abbrev br2 : Facts := [(br1, true)]
abbrev br3 : Facts := ((br0, true) : E × Bool) :: br2
abbrev br4 : E := .uf 84 (.o2 .cel (.v 7600) (.il 0))
abbrev br5 : E := .o2 .lt (.il 35184372088832) (.o2 (.cell 0) (.v 7600) (.v 2024))
abbrev br6 : Facts := ((br0, false) : E × Bool) :: br2
abbrev br7 : Facts := ((br5, true) : E × Bool) :: br6
abbrev br8 : Facts := ((br5, false) : E × Bool) :: br6
abbrev br9 : E := .o2 .cel (.v 7600) (.o2 .cel (.v 7601) (.o2 .cel (.v 7602) (.o2 .cel (.v 7603) (.o2 .cel (.v 2024) (.il 0)))))
abbrev br10 : E := .o2 .add (.uf 86 br9) (.o2 (.cell 0) (.v 7600) (.v 2024))
abbrev br11 : E := .o2 .cel (.v 7600) (.o2 .cel (.v 7601) (.o2 .cel (.v 7602) (.o2 .cel (.v 7603) (.o2 .cel (.o2 .add (.v 2024) (.il 1)) (.il 0)))))
abbrev br12 : E := .o2 .cel (.v 7600) (.o2 .cel (.v 7601) (.o2 .cel (.v 7602) (.o2 .cel (.v 7603) (.il 0))))
abbrev br13 : Facts := [(br1, false)]
def rn0L : List (Facts × List Ob) :=
  [(br3,
    [(.e br4)]),
   (br7,
    [(.e br4)]),
   (((((.v 7603), true) : E × Bool) :: br8),
    [(.e (.o2 .lt (.v 2024) (.uf 85 (.o2 .cel (.v 7600) (.il 0))))), (.e (.o2 .le br10 (.il 9223372036854775807))), (.e (.o2 .le (.il (-9223372036854775808)) br10)), (.e (.o2 .ieq (.il 6) (.uf 80 br11))), (.e (.o2 .ieq br10 (.uf 86 br11))), (.e (.o2 .ieq (.v 7601) (.uf 87 br11))), (.e (.o2 .ieq (.v 7601) (.o2 (.cell 0) (.uf 83 br12) (.il 0)))), (.e (.o2 .ieq (.il 2) (.o2 (.cell 0) (.uf 82 br12) (.il 0)))), (.e (.o2 .ieq (.uf 80 br11) (.il 6))), (.e (.o2 .ieq (.il 8) (.o2 (.cell 0) (.uf 81 br12) (.il 0)))), (.e (.o2 .seq (.sl []) (.o2 (.cell 1) (.uf 81 br12) (.il 0)))), (.e (.o2 .ieq (.o2 (.cell 0) (.v 7600) (.v 2024)) (.o2 (.cell 2) (.uf 81 br12) (.il 0)))), (.e (.o2 .ieq (.il 1) (.o2 (.cell 0) (.uf 81 br12) (.il 1)))), (.e (.o2 .seq (.sl [111, 110, 101]) (.o2 (.cell 1) (.uf 81 br12) (.il 1)))), (.e (.o2 .ieq br10 (.o2 (.cell 2) (.uf 81 br12) (.il 1)))), (.e (.o2 .ieq (.il 3) (.o2 (.cell 0) (.uf 81 br12) (.il 2)))), (.e (.o2 .seq (.sl [111, 110, 101]) (.o2 (.cell 1) (.uf 81 br12) (.il 2)))), (.e (.o2 .ieq (.il 0) (.o2 (.cell 2) (.uf 81 br12) (.il 2)))), (.e (.o2 .ieq (.il 1) (.o2 (.cell 0) (.uf 81 br12) (.il 3)))), (.e (.o2 .seq (.sl [111, 116, 104, 101, 114]) (.o2 (.cell 1) (.uf 81 br12) (.il 3)))), (.e (.o2 .ieq br10 (.o2 (.cell 2) (.uf 81 br12) (.il 3)))), (.e (.o2 .ieq (.il 6) (.o2 (.cell 0) (.uf 81 br12) (.il 4)))), (.e (.o2 .seq (.sl []) (.o2 (.cell 1) (.uf 81 br12) (.il 4)))), (.e (.o2 .ieq (.il 0) (.o2 (.cell 2) (.uf 81 br12) (.il 4)))), (.e (.o2 .ieq (.il 2) (.o2 (.cell 0) (.uf 81 br12) (.il 5)))), (.e (.o2 .seq (.sl [111, 116, 104, 101, 114]) (.o2 (.cell 1) (.uf 81 br12) (.il 5)))), (.e (.o2 .ieq (.il 0) (.o2 (.cell 2) (.uf 81 br12) (.il 5))))]),
   (((((.v 7603), false) : E × Bool) :: br8),
    [(.e (.o2 .lt (.v 2024) (.uf 85 (.o2 .cel (.v 7600) (.il 0))))), (.e (.o2 .le br10 (.il 9223372036854775807))), (.e (.o2 .le (.il (-9223372036854775808)) br10)), (.e (.o2 .ieq (.il 3) (.uf 80 br11))), (.e (.o2 .ieq br10 (.uf 86 br11))), (.e (.o2 .ieq (.v 7601) (.uf 87 br11))), (.e (.o2 .ieq (.v 7601) (.o2 (.cell 0) (.uf 83 br12) (.il 0)))), (.e (.o2 .ieq (.il 2) (.o2 (.cell 0) (.uf 82 br12) (.il 0)))), (.e (.o2 .ieq (.uf 80 br11) (.il 3))), (.e (.o2 .ieq (.il 8) (.o2 (.cell 0) (.uf 81 br12) (.il 0)))), (.e (.o2 .seq (.sl []) (.o2 (.cell 1) (.uf 81 br12) (.il 0)))), (.e (.o2 .ieq (.o2 (.cell 0) (.v 7600) (.v 2024)) (.o2 (.cell 2) (.uf 81 br12) (.il 0)))), (.e (.o2 .ieq (.il 1) (.o2 (.cell 0) (.uf 81 br12) (.il 1)))), (.e (.o2 .seq (.sl [111, 110, 101]) (.o2 (.cell 1) (.uf 81 br12) (.il 1)))), (.e (.o2 .ieq br10 (.o2 (.cell 2) (.uf 81 br12) (.il 1)))), (.e (.o2 .ieq (.il 3) (.o2 (.cell 0) (.uf 81 br12) (.il 2)))), (.e (.o2 .seq (.sl [111, 110, 101]) (.o2 (.cell 1) (.uf 81 br12) (.il 2)))), (.e (.o2 .ieq (.il 0) (.o2 (.cell 2) (.uf 81 br12) (.il 2))))]),
   (br13,
    [(.e (.o1 .not br4)), (.t (.il 0) (.uf 81 br12)), (.t (.il 0) (.uf 82 br12)), (.t (.il 0) (.uf 83 br12))])]
abbrev br14 : E := .o2 .lt (.o2 .mul (.il 2) (.v 7602)) (.o2 (.cell 0) (.v 7600) (.v 2024))
abbrev br15 : Facts := ((br14, true) : E × Bool) :: br8
abbrev br16 : E := .o2 .add (.uf 80 br9) (.il 6)
abbrev br17 : E := .o2 (.cell 0) (.uf 83 br12) (.v 2024)
abbrev br18 : E := .o2 .add (.uf 80 br9) (.il 3)
abbrev br19 : E := .o2 .add (.uf 80 br9) (.il 1)
abbrev br20 : E := .o2 .add (.uf 80 br9) (.il 2)
abbrev br21 : E := .o2 .add (.uf 80 br9) (.il 4)
abbrev br22 : E := .o2 .add (.uf 80 br9) (.il 5)
abbrev br23 : List Ob := [(.e (.o2 .ieq (.o2 .sub br18 (.il 1)) (.o2 (.cell 0) (.uf 82 br12) (.v 2024)))), (.e (.o2 .ieq (.uf 80 br11) br16)), (.e (.o2 .ieq (.il 8) (.o2 (.cell 0) (.uf 81 br12) (.uf 80 br9)))), (.e (.o2 .seq (.sl []) (.o2 (.cell 1) (.uf 81 br12) (.uf 80 br9)))), (.e (.o2 .ieq (.o2 (.cell 0) (.v 7600) (.v 2024)) (.o2 (.cell 2) (.uf 81 br12) (.uf 80 br9)))), (.e (.o2 .ieq (.il 1) (.o2 (.cell 0) (.uf 81 br12) br19))), (.e (.o2 .seq (.sl [111, 110, 101]) (.o2 (.cell 1) (.uf 81 br12) br19))), (.e (.o2 .ieq br10 (.o2 (.cell 2) (.uf 81 br12) br19))), (.e (.o2 .ieq (.il 3) (.o2 (.cell 0) (.uf 81 br12) br20))), (.e (.o2 .seq (.sl [111, 110, 101]) (.o2 (.cell 1) (.uf 81 br12) br20))), (.e (.o2 .ieq (.il 0) (.o2 (.cell 2) (.uf 81 br12) br20))), (.e (.o2 .ieq (.il 1) (.o2 (.cell 0) (.uf 81 br12) br18))), (.e (.o2 .seq (.sl [111, 116, 104, 101, 114]) (.o2 (.cell 1) (.uf 81 br12) br18))), (.e (.o2 .ieq br10 (.o2 (.cell 2) (.uf 81 br12) br18))), (.e (.o2 .ieq (.il 6) (.o2 (.cell 0) (.uf 81 br12) br21))), (.e (.o2 .seq (.sl []) (.o2 (.cell 1) (.uf 81 br12) br21))), (.e (.o2 .ieq (.il 0) (.o2 (.cell 2) (.uf 81 br12) br21))), (.e (.o2 .ieq (.il 2) (.o2 (.cell 0) (.uf 81 br12) br22))), (.e (.o2 .seq (.sl [111, 116, 104, 101, 114]) (.o2 (.cell 1) (.uf 81 br12) br22))), (.e (.o2 .ieq (.il 0) (.o2 (.cell 2) (.uf 81 br12) br22)))]
abbrev br24 : List Ob := [(.e (.o2 .ieq (.o2 .sub br18 (.il 1)) (.o2 (.cell 0) (.uf 82 br12) (.v 2024)))), (.e (.o2 .ieq (.uf 80 br11) br18)), (.e (.o2 .ieq (.il 8) (.o2 (.cell 0) (.uf 81 br12) (.uf 80 br9)))), (.e (.o2 .seq (.sl []) (.o2 (.cell 1) (.uf 81 br12) (.uf 80 br9)))), (.e (.o2 .ieq (.o2 (.cell 0) (.v 7600) (.v 2024)) (.o2 (.cell 2) (.uf 81 br12) (.uf 80 br9)))), (.e (.o2 .ieq (.il 1) (.o2 (.cell 0) (.uf 81 br12) br19))), (.e (.o2 .seq (.sl [111, 110, 101]) (.o2 (.cell 1) (.uf 81 br12) br19))), (.e (.o2 .ieq br10 (.o2 (.cell 2) (.uf 81 br12) br19))), (.e (.o2 .ieq (.il 3) (.o2 (.cell 0) (.uf 81 br12) br20))), (.e (.o2 .seq (.sl [111, 110, 101]) (.o2 (.cell 1) (.uf 81 br12) br20))), (.e (.o2 .ieq (.il 0) (.o2 (.cell 2) (.uf 81 br12) br20)))]
abbrev br25 : Facts := ((br14, false) : E × Bool) :: br8
abbrev br26 : E := .o2 .mul (.il 2) (.uf 87 br9)
abbrev br27 : E := .o2 .mn br26 (.v 7602)
def rn1L : List (Facts × List Ob) :=
  [(br3,
    [(.e br4)]),
   (br7,
    [(.e br4)]),
   (((((.v 7603), true) : E × Bool) :: br15),
    (((.e (.o2 .lt (.v 2024) (.uf 85 (.o2 .cel (.v 7600) (.il 0))))) : Ob) :: ((.e (.o2 .le br10 (.il 9223372036854775807))) : Ob) :: ((.e (.o2 .le (.il (-9223372036854775808)) br10)) : Ob) :: ((.e (.o2 .ieq br16 (.uf 80 br11))) : Ob) :: ((.e (.o2 .ieq br10 (.uf 86 br11))) : Ob) :: ((.e (.o2 .ieq (.v 7601) (.uf 87 br11))) : Ob) :: ((.e (.o2 .ieq (.v 7601) br17)) : Ob) :: br23)),
   (((((.v 7603), false) : E × Bool) :: br15),
    (((.e (.o2 .lt (.v 2024) (.uf 85 (.o2 .cel (.v 7600) (.il 0))))) : Ob) :: ((.e (.o2 .le br10 (.il 9223372036854775807))) : Ob) :: ((.e (.o2 .le (.il (-9223372036854775808)) br10)) : Ob) :: ((.e (.o2 .ieq br18 (.uf 80 br11))) : Ob) :: ((.e (.o2 .ieq br10 (.uf 86 br11))) : Ob) :: ((.e (.o2 .ieq (.v 7601) (.uf 87 br11))) : Ob) :: ((.e (.o2 .ieq (.v 7601) br17)) : Ob) :: br24)),
   (((((.v 7603), true) : E × Bool) :: br25),
    (((.e (.o2 .lt (.v 2024) (.uf 85 (.o2 .cel (.v 7600) (.il 0))))) : Ob) :: ((.e (.o2 .le br26 (.il 9223372036854775807))) : Ob) :: ((.e (.o2 .le (.il (-9223372036854775808)) br26)) : Ob) :: ((.e (.o2 .le br10 (.il 9223372036854775807))) : Ob) :: ((.e (.o2 .le (.il (-9223372036854775808)) br10)) : Ob) :: ((.e (.o2 .ieq br16 (.uf 80 br11))) : Ob) :: ((.e (.o2 .ieq br10 (.uf 86 br11))) : Ob) :: ((.e (.o2 .ieq br27 (.uf 87 br11))) : Ob) :: ((.e (.o2 .ieq br27 br17)) : Ob) :: br23)),
   (((((.v 7603), false) : E × Bool) :: br25),
    (((.e (.o2 .lt (.v 2024) (.uf 85 (.o2 .cel (.v 7600) (.il 0))))) : Ob) :: ((.e (.o2 .le br26 (.il 9223372036854775807))) : Ob) :: ((.e (.o2 .le (.il (-9223372036854775808)) br26)) : Ob) :: ((.e (.o2 .le br10 (.il 9223372036854775807))) : Ob) :: ((.e (.o2 .le (.il (-9223372036854775808)) br10)) : Ob) :: ((.e (.o2 .ieq br18 (.uf 80 br11))) : Ob) :: ((.e (.o2 .ieq br10 (.uf 86 br11))) : Ob) :: ((.e (.o2 .ieq br27 (.uf 87 br11))) : Ob) :: ((.e (.o2 .ieq br27 br17)) : Ob) :: br24)),
   (br13,
    [(.e (.o1 .not br4)), (.e (.o2 .le (.uf 80 br9) (.o1 .tlen (.uf 81 br12)))), (.e (.o2 .le (.v 2024) (.o1 .tlen (.uf 82 br12)))), (.e (.o2 .le (.v 2024) (.o1 .tlen (.uf 83 br12)))), (.t (.o2 .ttake (.uf 81 br12) (.uf 80 br9)) (.uf 81 br12)), (.t (.o2 .ttake (.uf 82 br12) (.v 2024)) (.uf 82 br12)), (.t (.o2 .ttake (.uf 83 br12) (.v 2024)) (.uf 83 br12))])]
abbrev br28 : E := .o2 .ieq (.o2 (.cell 1) (.v 7701) (.o2 (.cell 0) (.v 7700) (.v 2025))) (.o2 (.cell 0) (.v 7702) (.v 2025))
abbrev br29 : E := .o2 .lt (.v 2025) (.o1 .tlen (.v 7700))
abbrev br30 : Facts := [(br29, true)]
abbrev br31 : List Ob := [(.e (.o2 .lt (.v 2025) (.o1 .tlen (.v 7702)))), (.e (.o2 .lt (.o2 (.cell 0) (.v 7700) (.v 2025)) (.o1 .tlen (.v 7701)))), (.e (.o2 .le (.il 0) (.o2 (.cell 0) (.v 7700) (.v 2025))))]
def ckL : List (Facts × List Ob) :=
  [((((br28, true) : E × Bool) :: br30),
    br31),
   ((((br28, false) : E × Bool) :: br30),
    (((.e (.bl false)) : Ob) :: br31)),
   ([(br29, false)],
    [])]
abbrev br32 : E := .o2 .lt (.il 2147483647) (.o1 .tlen (.v 64))
abbrev br33 : Facts := [((.o2 .le (.il (-9223372036854775808)) (.v 0)), true), ((.o2 .le (.v 0) (.il 9223372036854775807)), true), ((.o2 .le (.il (-9223372036854775808)) (.v 32)), true), ((.o2 .le (.v 32) (.il 9223372036854775807)), true), ((.o2 .le (.o1 .tlen (.v 64)) (.il 9223372036854775807)), true)]
abbrev br34 : Facts := ((br32, false) : E × Bool) :: br33
abbrev br35 : Facts := (((.o2 .lt (.v 0) (.il 0)), false) : E × Bool) :: br34
abbrev br36 : E := .o2 .lt (.il 1099511627776) (.v 32)
abbrev br37 : Facts := (((.o2 .lt (.v 32) (.v 0)), false) : E × Bool) :: br35
abbrev br38 : E := .o2 .lt (.il 60) (.o1 .tlen (.v 64))
abbrev br39 : Facts := ((br36, false) : E × Bool) :: br37
abbrev br40 : Facts := ((br38, false) : E × Bool) :: br39
abbrev br41 : E := .o2 .cel (.v 64) (.o2 .cel (.v 0) (.o2 .cel (.v 32) (.o2 .cel (.v 96) (.o2 .cel (.il 0) (.il 0)))))
abbrev br42 : List Ob := [(.e (.o2 .ieq (.il 0) (.uf 87 br41))), (.e (.o2 .ieq (.il 0) (.uf 86 br41)))]
abbrev br43 : E := .o2 .cel (.v 64) (.o2 .cel (.v 0) (.o2 .cel (.v 32) (.o2 .cel (.v 96) (.il 0))))
abbrev br44 : E := .o2 .cel (.v 0) (.o2 .cel (.v 32) (.o2 .cel (.uf 81 br43) (.il 0)))
abbrev br45 : E := .o1 .tlen (.uf 81 br43)
abbrev br46 : E := .o2 .ieq (.o1 .tlen (.uf 63 br44)) br45
abbrev br47 : Facts := (((.uf 84 (.o2 .cel (.v 64) (.il 0))), false) : E × Bool) :: br40
abbrev br48 : E := .o1 .tlen (.uf 82 br43)
abbrev br49 : List Ob := ((.e (.uf 64 br44)) : Ob) :: ((.e (.o2 .le br45 (.il 400))) : Ob) :: br42
def lawRL : List (Facts × List Ob) :=
  [((((br32, true) : E × Bool) :: br33),
    [(.e (.bl true))]),
   (((((.o2 .lt (.v 0) (.il 0)), true) : E × Bool) :: br34),
    [(.e (.bl true))]),
   (((((.o2 .lt (.v 32) (.v 0)), true) : E × Bool) :: br35),
    [(.e (.bl true))]),
   ((((br36, true) : E × Bool) :: br37),
    [(.e (.bl true))]),
   ((((br38, true) : E × Bool) :: br39),
    [(.e (.bl true))]),
   (((((.uf 84 (.o2 .cel (.v 64) (.il 0))), true) : E × Bool) :: br40),
    (((.e (.bl true)) : Ob) :: br42)),
   ((((br46, true) : E × Bool) :: br47),
    (((.e (.bl true)) : Ob) :: ((.e (.o2 .ieq (.o1 .tlen (.uf 83 br43)) br48)) : Ob) :: ((.e (.o2 .le br48 (.il 60))) : Ob) :: ((.e (.uf 88 (.o2 .cel (.uf 82 br43) (.o2 .cel (.uf 63 br44) (.o2 .cel (.uf 83 br43) (.il 0)))))) : Ob) :: br49)),
   ((((br46, false) : E × Bool) :: br47),
    (((.e (.bl false)) : Ob) :: br49))]
end Go.Proofs.Ytagpchabkplggaa.sxBackoff

namespace Go.Proofs.Ytagpchabkplggaa.sxBackoff
open Go.Sx Go.RowKit
set_option linter.unusedVariables false
set_option linter.unusedSimpArgs false
set_option maxRecDepth 100000
set_option maxHeartbeats 8000000

theorem chunk_len {d : Dv} {oth : Bool} {i : Nat} : (chunk d oth i).length = nN oth := by unfold chunk nN; cases oth <;> rfl
theorem flat_len {f : Nat → List Row} {n : Nat} (h : ∀ i, (f i).length = n) : ∀ m, ((List.range m).flatMap f).length = n * m
  | 0 => by simp
  | m + 1 => by
    rw [List.range_succ, List.flatMap_append, List.length_append, flat_len h m]
    simp [h, Nat.mul_succ]
theorem flat_at {f : Nat → List Row} {n : Nat} (h : ∀ i, (f i).length = n) {j : Nat} (hj : j < n) : ∀ {m i : Nat}, i < m → ((List.range m).flatMap f)[n * i + j]? = (f i)[j]?
  | 0, i, hi => by omega
  | m + 1, i, hi => by
    rw [List.range_succ, List.flatMap_append]
    have hl := flat_len h m
    by_cases hm : i < m
    · rw [List.getElem?_append_left, flat_at h hj hm]
      rw [hl]
      have : n * (i + 1) ≤ n * m := Nat.mul_le_mul_left n (by omega)
      rw [Nat.mul_succ] at this; omega
    · have e : i = m := by omega
      subst e
      rw [List.getElem?_append_right (by rw [hl]; omega), hl, Nat.add_sub_cancel_left]
      simp
theorem ops_len {d : Dv} {oth : Bool} : (opsT d oth).length = nN oth * d.T.length := flat_len (fun _ => chunk_len) _
theorem ops_at {d : Dv} {oth : Bool} {i j : Nat} (hi : i < d.T.length) (hj : j < nN oth) : row (.t (opsT d oth)) (nN oth * i + j) = ((chunk d oth i)[j]?).getD [] := by
  show ((opsT d oth)[nN oth * i + j]?).getD [] = _
  unfold opsT
  rw [flat_at (fun _ => chunk_len) hj hi]
theorem at_at {d : Dv} {oth : Bool} {i : Nat} (hi : i < d.T.length) : row (.t (atT d oth)) i = [.i ((nN oth * i + 2 : Nat) : Int)] := by
  show ((atT d oth)[i]?).getD [] = _
  unfold atT
  rw [List.getElem?_map, List.getElem?_range hi]; rfl
theorem want_at {d : Dv} {a m : Int} {i : Nat} (hi : i < d.T.length) : row (.t (wantT d a m)) i = [.i (wtN d a m (i + 1))] := by
  show ((wantT d a m)[i]?).getD [] = _
  unfold wantT
  rw [List.getElem?_map, List.getElem?_range hi]; rfl
theorem at_len {d : Dv} {oth : Bool} : (atT d oth).length = d.T.length := by unfold atT; simp
theorem want_len {d : Dv} {a m : Int} : (wantT d a m).length = d.T.length := by unfold wantT; simp

/-! ### the gaps that laws take -/
structure GapsOk (d : Dv) : Prop where
  len : d.T.length ≤ 60
  gap : ∀ i, i < d.T.length → 0 ≤ gap d i ∧ gap d i ≤ 35184372088832
theorem gaps_of {d : Dv} (hl : d.T.length ≤ 60) (h : anyB (B5 d) d.T.length = false) : GapsOk d := by
  refine ⟨hl, fun i hi => ?_⟩
  have := anyB_false h i hi
  unfold B5 at this
  simp only [Bool.or_eq_false_iff, decide_eq_false_iff_not] at this
  omega
theorem sum_ok {d : Dv} (h : GapsOk d) : ∀ i, i ≤ d.T.length → 0 ≤ sumG d i ∧ sumG d i ≤ i * 35184372088832
  | 0, _ => ⟨Int.le_refl _, by simp [sumG]⟩
  | i + 1, hi => by
    have := sum_ok h i (by omega)
    have := h.gap i (by omega)
    show 0 ≤ sumG d i + gap d i ∧ sumG d i + gap d i ≤ _
    omega
theorem wt_ok {d : Dv} {a m : Int} (ha : 0 ≤ a ∧ a ≤ m) : ∀ i, 0 ≤ wtN d a m i ∧ wtN d a m i ≤ m
  | 0 => ⟨Int.le_refl _, by show (0 : Int) ≤ m; omega⟩
  | i + 1 => by
    have := wt_ok (d := d) ha i
    unfold wtN
    split
    · exact ha
    · split <;> omega
theorem stop_none {d : Dv} (h : anyB (B5 d) d.T.length = false) : stop (B5 d) d.T.length = d.T.length := by
  have := @stop_le (B5 d) d.T.length
  unfold anyB at h
  have := of_decide_eq_false h
  omega

/-! ### what the state is -/
theorem one_oth : KQ.eq .s oneS othS = false := by decide +kernel
theorem mget_1 {q : KQ} {r : Row} {k : Dv} (h : q.eq (hd r) k = true) : mget q [r] k = some r := by rw [mget_cons, h]; rfl
theorem mget_1n {q : KQ} {r : Row} {k : Dv} (h : q.eq (hd r) k = false) : mget q [r] k = none := by rw [mget_cons, h]; rfl
theorem put_1 {q : KQ} {r x : Row} (h : q.eq (hd r) (hd x) = true) : mput q [r] x = [x] := by rw [mput_cons, h]; rfl
theorem put_2 {q : KQ} {r x : Row} (h : q.eq (hd r) (hd x) = false) : mput q [r] x = [r, x] := by rw [mput_cons, h]; rfl
/-- There is one entry, that waits so long since then. -/
def One (A : List Row) (w t : Int) : Prop := ∃ ix d ex, A = [[oneS, ix, d, .i t, ex]] ∧ d.I = w
theorem st_clock {a : Dv} {m g : Int} {s : BS} : st1 a m s [.i 8, nosS, .i g] = { s with T := s.T + g } := by
  unfold st1; rfl
theorem st_get {a : Dv} {m : Int} {s : BS} : st1 a m s [.i 3, oneS, .i 0] = s := by unfold st1; rfl
theorem st_next {a : Dv} {m t : Int} {s : BS} {i : Nat} {l w : Int} (h : (i = 0 ∧ s.A = []) ∨ (0 < i ∧ One s.A w l)) :
    (st1 a m s [.i 1, oneS, .i t]).T = s.T ∧ One (st1 a m s [.i 1, oneS, .i t]).A (if i = 0 ∨ 2 * m < t - l then a.I else if m < 2 * w then m else 2 * w) s.T := by
  have e1 : rI [.i 1, oneS, .i t] 0 = 1 := rfl
  have e2 : cc [.i 1, oneS, .i t] 1 = oneS := rfl
  have e3 : rI [.i 1, oneS, .i t] 2 = t := rfl
  rcases h with ⟨rfl, hA⟩ | ⟨hi, ix, d, ex, hA, hw⟩
  · have hf : mget .s s.A oneS = none := by rw [hA]; rfl
    unfold st1
    rw [if_pos e1, e2, hf]
    refine ⟨rfl, ?_⟩
    rw [if_pos (.inl rfl)]
    exact ⟨.i s.E.length, a, oneS, by unfold freshS; rw [hA]; rfl, rfl⟩
  · have hf : mget .s s.A oneS = some [oneS, ix, d, .i l, ex] := by rw [hA]; exact mget_1 s_eq_self
    unfold st1
    rw [if_pos e1, e2, hf, e3]
    have e4 : rI [oneS, ix, d, .i l, ex] 3 = l := rfl
    have e5 : rI [oneS, ix, d, .i l, ex] 2 = w := hw
    simp only [e4]
    by_cases hx : 2 * m < t - l
    · have : expd m t l = true := decide_eq_true (by omega)
      rw [if_pos this, if_pos (.inr hx)]
      refine ⟨rfl, .i s.E.length, a, oneS, ?_, rfl⟩
      unfold freshS
      rw [hA]; exact put_1 s_eq_self
    · have : ¬ expd m t l = true := by unfold expd; simp; omega
      rw [if_neg this, if_neg (by omega)]
      refine ⟨rfl, ix, .i (wNew m (rI [oneS, ix, d, .i l, ex] 2)), oneS, ?_, ?_⟩
      · unfold liveS
        rw [hA]; exact put_1 s_eq_self
      · rw [e5]
        show wNew m w = _
        unfold wNew
        by_cases hc : m < 2 * w
        · rw [if_pos hc, if_pos (by omega)]
        · rw [if_neg hc, if_neg (by omega)]; omega
theorem an_get {m : Int} {s : BS} {w t : Int} (h : One s.A w t) : rI (an1 m s [.i 3, oneS, .i 0]) 1 = w := by
  obtain ⟨ix, d, ex, hA, hw⟩ := h
  have hf : mget .s s.A oneS = some [oneS, ix, d, .i t, ex] := by rw [hA]; exact mget_1 s_eq_self
  unfold an1
  rw [show cc [.i 3, oneS, .i 0] 1 = oneS from rfl, hf]
  exact hw
theorem st_other {a : Dv} {m t : Int} (hm : 0 ≤ m) {s : BS} {w : Int} (h : One s.A w s.T) :
    ∀ s1 s2 s3, s1 = st1 a m s [.i 1, othS, .i t] → s2 = st1 a m s1 [.i 6, nosS, .i 0] → s3 = st1 a m s2 [.i 2, othS, .i 0] → s3.T = s.T ∧ One s3.A w s.T := by
  intro s1 s2 s3 h1 h2 h3
  obtain ⟨ix, d, ex, hA, hw⟩ := h
  have hf : mget .s s.A othS = none := by rw [hA]; exact mget_1n one_oth
  have e1 : s1 = freshS a s othS := by
    rw [h1]; unfold st1
    rw [if_pos (show rI [.i 1, othS, .i t] 0 = 1 from rfl), show cc [.i 1, othS, .i t] 1 = othS from rfl, hf]
  have a1 : s1.A = [[oneS, ix, d, .i s.T, ex], [othS, .i s.E.length, a, .i s.T, othS]] := by
    rw [e1]; unfold freshS; rw [hA]; exact put_2 one_oth
  have t1 : s1.T = s.T := by rw [e1]; rfl
  have e2 : s2 = { s1 with A := s1.A.filter fun r => !(expd m s1.T (rI r 3)) } := by rw [h2]; unfold st1; rfl
  have hx : expd m s1.T s.T = false := by rw [t1]; unfold expd; simp; omega
  have a2 : s2.A = s1.A := by
    rw [e2, a1]
    show List.filter _ _ = _
    refine List.filter_eq_self.2 fun r hr => ?_
    simp only [List.mem_cons, List.not_mem_nil, or_false] at hr
    rcases hr with rfl | rfl
    · show (!(expd m s1.T s.T)) = true; rw [hx]; rfl
    · show (!(expd m s1.T s.T)) = true; rw [hx]; rfl
  have t2 : s2.T = s.T := by rw [e2]; exact t1
  have e3 : s3 = { s2 with A := mdel .s s2.A othS } := by rw [h3]; unfold st1; rfl
  refine ⟨by rw [e3]; exact t2, ix, d, ex, ?_, hw⟩
  rw [e3, a2, a1]
  show mdel .s _ othS = _
  unfold mdel
  rw [mfind_cons, show KQ.eq .s (hd [oneS, ix, d, .i s.T, ex]) othS = false from one_oth, mfind_cons, show KQ.eq .s (hd [othS, .i s.E.length, a, .i s.T, othS]) othS = true from s_eq_self]
  rfl
def Pl (d : Dv) (a m : Int) (i : Nat) (s : BS) : Prop := s.T = sumG d i ∧ ((i = 0 ∧ s.A = []) ∨ (0 < i ∧ One s.A (wtN d a m i) (sumG d i)))
theorem pl_step {d a : Dv} {m : Int} {oth : Bool} (hm : 0 ≤ m) {i : Nat} (hi : i < d.T.length) (hP : Pl d a.I m i (stN a m (.t (opsT d oth)) (nN oth * i))) :
    Pl d a.I m (i + 1) (stN a m (.t (opsT d oth)) (nN oth * (i + 1))) ∧ rI (an1 m (stN a m (.t (opsT d oth)) (nN oth * i + 2)) (row (.t (opsT d oth)) (nN oth * i + 2))) 1 = wtN d a.I m (i + 1) := by
  have hn : 3 ≤ nN oth := by unfold nN; split <;> omega
  have r0 := ops_at (oth := oth) hi (j := 0) (by omega)
  have r1 := ops_at (oth := oth) hi (j := 1) (by omega)
  have r2 := ops_at (oth := oth) hi (j := 2) (by omega)
  have r0 : row (.t (opsT d oth)) (nN oth * i) = [.i 8, nosS, .i (gap d i)] := r0
  have r1 : row (.t (opsT d oth)) (nN oth * i + 1) = [.i 1, oneS, .i (sumG d i + gap d i)] := r1
  have r2 : row (.t (opsT d oth)) (nN oth * i + 2) = [.i 3, oneS, .i 0] := r2
  have k1 : stN a m (.t (opsT d oth)) (nN oth * i + 1) = { stN a m (.t (opsT d oth)) (nN oth * i) with T := (stN a m (.t (opsT d oth)) (nN oth * i)).T + gap d i } := by
    show st1 a m _ (row _ (nN oth * i)) = _
    rw [r0]; exact st_clock
  have k2 : stN a m (.t (opsT d oth)) (nN oth * i + 2) = st1 a m (stN a m (.t (opsT d oth)) (nN oth * i + 1)) [.i 1, oneS, .i (sumG d i + gap d i)] := by
    show st1 a m _ (row _ (nN oth * i + 1)) = _
    rw [r1]
  have k3 : stN a m (.t (opsT d oth)) (nN oth * i + 3) = stN a m (.t (opsT d oth)) (nN oth * i + 2) := by
    show st1 a m _ (row _ (nN oth * i + 2)) = _
    rw [r2]; exact st_get
  obtain ⟨p1, p2⟩ := hP
  have nx := st_next (a := a) (m := m) (t := sumG d i + gap d i) (s := stN a m (.t (opsT d oth)) (nN oth * i + 1)) (i := i) (l := sumG d i) (w := wtN d a.I m i) (by rw [k1]; exact p2)
  rw [← k2] at nx
  have t1 : (stN a m (.t (opsT d oth)) (nN oth * i + 1)).T = sumG d (i + 1) := by rw [k1]; show _ + _ = _; rw [p1]; rfl
  rw [t1] at nx
  have hw : (if i = 0 ∨ 2 * m < sumG d i + gap d i - sumG d i then a.I else if m < 2 * wtN d a.I m i then m else 2 * wtN d a.I m i) = wtN d a.I m (i + 1) := by
    rw [show sumG d i + gap d i - sumG d i = gap d i by omega]; rfl
  rw [hw] at nx
  refine ⟨?_, by rw [r2]; exact an_get nx.2⟩
  cases oth with
  | false =>
    have e : nN false * (i + 1) = nN false * i + 3 := by rw [Nat.mul_succ]; rfl
    rw [e, k3]
    exact ⟨nx.1, .inr ⟨Nat.succ_pos i, nx.2⟩⟩
  | true =>
    have e : nN true * (i + 1) = nN true * i + 6 := by rw [Nat.mul_succ]; rfl
    have r3 : row (.t (opsT d true)) (nN true * i + 3) = [.i 1, othS, .i (sumG d i + gap d i)] := ops_at (oth := true) hi (j := 3) (by decide)
    have r4 : row (.t (opsT d true)) (nN true * i + 4) = [.i 6, nosS, .i 0] := ops_at (oth := true) hi (j := 4) (by decide)
    have r5 : row (.t (opsT d true)) (nN true * i + 5) = [.i 2, othS, .i 0] := ops_at (oth := true) hi (j := 5) (by decide)
    have o := st_other (a := a) (m := m) (t := sumG d i + gap d i) hm (s := stN a m (.t (opsT d true)) (nN true * i + 3)) (w := wtN d a.I m (i + 1)) (by rw [k3, nx.1]; exact nx.2)
      (stN a m (.t (opsT d true)) (nN true * i + 4)) (stN a m (.t (opsT d true)) (nN true * i + 5)) (stN a m (.t (opsT d true)) (nN true * i + 6))
      (by show st1 a m _ (row _ (nN true * i + 3)) = _; rw [r3]) (by show st1 a m _ (row _ (nN true * i + 4)) = _; rw [r4]) (by show st1 a m _ (row _ (nN true * i + 5)) = _; rw [r5])
    rw [e]
    rw [k3, nx.1] at o
    exact ⟨o.1, .inr ⟨Nat.succ_pos i, o.2⟩⟩
theorem played {d a : Dv} {m : Int} {oth : Bool} (hm : 0 ≤ m) : ∀ i, i ≤ d.T.length → Pl d a.I m i (stN a m (.t (opsT d oth)) (nN oth * i))
  | 0, _ => ⟨rfl, .inl ⟨rfl, rfl⟩⟩
  | i + 1, hi => (pl_step hm (by omega) (played hm i (by omega))).1
theorem says_ok {d a : Dv} {m : Int} {oth : Bool} (hm : 0 ≤ m) : Says (atT d oth) (answers a m (.t (opsT d oth))) (wantT d a.I m) := by
  intro i hi
  rw [at_len] at hi
  have hn : 3 ≤ nN oth := by unfold nN; split <;> omega
  have hk : nN oth * i + 2 < (opsT d oth).length := by
    rw [ops_len]
    have : nN oth * (i + 1) ≤ nN oth * d.T.length := Nat.mul_le_mul_left _ (by omega)
    rw [Nat.mul_succ] at this; omega
  refine ⟨nN oth * i + 2, at_at hi, by rw [answers_len]; exact hk, ?_⟩
  rw [answers_at (show nN oth * i + 2 < (Dv.t (opsT d oth)).T.length from hk), want_at hi]
  exact (pl_step hm hi (played hm i (by omega))).2

/-! ### the loop that plays -/
section
variable {o : Env} {r : Nat}
theorem ns (a : Nat) : ((a : Int) + 1).toNat = a + 1 ∧ ((a : Int) + 2).toNat = a + 2 ∧ ((a : Int) + 3).toNat = a + 3 ∧ ((a : Int) + 4).toNat = a + 4 ∧ ((a : Int) + 5).toNat = a + 5 := by omega
theorem sum_ok' {d : Dv} : ∀ i, (∀ j, j < i → B5 d j = false) → 0 ≤ sumG d i ∧ sumG d i ≤ i * 35184372088832
  | 0, _ => ⟨Int.le_refl _, by simp [sumG]⟩
  | i + 1, h => by
    have h1 := sum_ok' i fun j hj => h j (by omega)
    have h2 := h i (by omega)
    unfold B5 at h2
    simp only [Bool.or_eq_false_iff, decide_eq_false_iff_not] at h2
    show 0 ≤ sumG d i + gap d i ∧ sumG d i + gap d i ≤ _
    omega
theorem rn1_all (hu : o.uf = UF) (hr : o.v 2024 = .i r) (hle : r ≤ stop (B5 (o.v 7600)) (o.v 7600).T.length) (hlen : (o.v 7600).T.length ≤ 60) (h0 : 0 < r)
    (hi : 0 ≤ (o.v 7601).I ∧ (o.v 7601).I ≤ (o.v 7602).I) (hm : (o.v 7602).I ≤ 1099511627776) : AllL o rn1L := by
  have hs := @stop_le (B5 (o.v 7600)) (o.v 7600).T.length
  have h2 := @stop_no (B5 (o.v 7600)) (o.v 7600).T.length r hle
  have h1 := @stop_yes (B5 (o.v 7600)) (o.v 7600).T.length r hle
  have h3 := @stop_end (B5 (o.v 7600)) (o.v 7600).T.length r hle
  have hsum := sum_ok' (d := o.v 7600) r fun j hj => stop_before (n := (o.v 7600).T.length) (by omega)
  have hwt := wt_ok (d := o.v 7600) hi r
  have hB : B5 (o.v 7600) r = (decide (gap (o.v 7600) r < 0) || decide (35184372088832 < gap (o.v 7600) r)) := rfl
  have hgp : (cc (row (o.v 7600) r) 0).I = gap (o.v 7600) r := rfl
  have hw1 : wtN (o.v 7600) (o.v 7601).I (o.v 7602).I (r + 1) = if 2 * (o.v 7602).I < gap (o.v 7600) r then (o.v 7601).I else if (o.v 7602).I < 2 * wtN (o.v 7600) (o.v 7601).I (o.v 7602).I r then (o.v 7602).I else 2 * wtN (o.v 7600) (o.v 7601).I (o.v 7602).I r := by
    show (if r = 0 ∨ 2 * (o.v 7602).I < gap (o.v 7600) r then _ else _) = _
    by_cases hc : 2 * (o.v 7602).I < gap (o.v 7600) r
    · rw [if_pos (.inr hc), if_pos hc]
    · rw [if_neg (by omega), if_neg hc]
  have hs1 : sumG (o.v 7600) (r + 1) = sumG (o.v 7600) r + gap (o.v 7600) r := rfl
  have hns := ns (nN (o.v 7603).B * r)
  simp only [rn1L, allL_cons, allL_nil, and_true]
  rcases Nat.lt_or_ge r (o.v 7600).T.length with hlt | hge
  · have hat := at_at (d := o.v 7600) (oth := (o.v 7603).B) hlt
    have hwa := want_at (d := o.v 7600) (a := (o.v 7601).I) (m := (o.v 7602).I) hlt
    have rj := fun j => ops_at (d := o.v 7600) (oth := (o.v 7603).B) (j := j) hlt
    cases ho : (o.v 7603).B with
    | false =>
      rw [ho] at hat rj hns
      have hn : nN false * (r + 1) = nN false * r + 3 := by rw [Nat.mul_succ]; rfl
      have r0 : row (.t (opsT (o.v 7600) false)) (nN false * r) = [.i 8, nosS, .i (gap (o.v 7600) r)] := rj 0 (by decide)
      have r1 : row (.t (opsT (o.v 7600) false)) (nN false * r + 1) = [.i 1, oneS, .i (sumG (o.v 7600) r + gap (o.v 7600) r)] := rj 1 (by decide)
      have r2 : row (.t (opsT (o.v 7600) false)) (nN false * r + 2) = [.i 3, oneS, .i 0] := rj 2 (by decide)
      and_intros
      all_goals intro h
      all_goals simp only [hold_cons_iff, hold_nil_iff, allT_cons, allT_nil, ob_e, ob_t, dB_lt, dB_le, dB_ieq, dB_seq, dB_not, dB_bl, dI_il, dI_sub, dI_add, dI_mul, dI_tlen, dI_mn, d_cell, d_uf, d_cel, d_v, d_il, d_bl, d_sl, d_add, d_mul, d_tlen, dT_take, hu, UF_80, UF_81, UF_82, UF_83, UF_84, UF_85, UF_86, UF_87, ar_0, ar_1, ar_2, ar_3, ar_4, hr, T_t, T_i, I_i, B_b, S_s, toNat_succ, Int.toNat_natCast, cast_lt, cast_le, decide_eq_true_eq, decide_eq_false_iff_not, beq_iff_eq, beq_eq_false_iff_ne, cc_0, cc_1, cc_2, false_and, and_false, not_false_eq_true, not_true_eq_false, false_implies, implies_true, and_true, true_and, Bool.true_eq_false, Bool.false_eq_true, hlt, ho, hgp, hn, hns, hat, hwa, hs1, hw1, r0, r1, r2, oneS, nosS, beq_self_eq_true] at h ⊢
      all_goals first
        | (unfold anyB; exact decide_eq_true (h1 hlt (by rw [hB]; simp; omega)))
        | (have hst := h2 hlt (by rw [hB]; simp; omega)
           and_intros <;> first | omega | (rw [if_pos (by omega)]) | (rw [if_neg (by omega)]))
        | trace_state
    | true =>
      rw [ho] at hat rj hns
      have hn : nN true * (r + 1) = nN true * r + 6 := by rw [Nat.mul_succ]; rfl
      have r0 : row (.t (opsT (o.v 7600) true)) (nN true * r) = [.i 8, nosS, .i (gap (o.v 7600) r)] := rj 0 (by decide)
      have r1 : row (.t (opsT (o.v 7600) true)) (nN true * r + 1) = [.i 1, oneS, .i (sumG (o.v 7600) r + gap (o.v 7600) r)] := rj 1 (by decide)
      have r2 : row (.t (opsT (o.v 7600) true)) (nN true * r + 2) = [.i 3, oneS, .i 0] := rj 2 (by decide)
      have r3 : row (.t (opsT (o.v 7600) true)) (nN true * r + 3) = [.i 1, othS, .i (sumG (o.v 7600) r + gap (o.v 7600) r)] := rj 3 (by decide)
      have r4 : row (.t (opsT (o.v 7600) true)) (nN true * r + 4) = [.i 6, nosS, .i 0] := rj 4 (by decide)
      have r5 : row (.t (opsT (o.v 7600) true)) (nN true * r + 5) = [.i 2, othS, .i 0] := rj 5 (by decide)
      and_intros
      all_goals intro h
      all_goals simp only [hold_cons_iff, hold_nil_iff, allT_cons, allT_nil, ob_e, ob_t, dB_lt, dB_le, dB_ieq, dB_seq, dB_not, dB_bl, dI_il, dI_sub, dI_add, dI_mul, dI_tlen, dI_mn, d_cell, d_uf, d_cel, d_v, d_il, d_bl, d_sl, d_add, d_mul, d_tlen, dT_take, hu, UF_80, UF_81, UF_82, UF_83, UF_84, UF_85, UF_86, UF_87, ar_0, ar_1, ar_2, ar_3, ar_4, hr, T_t, T_i, I_i, B_b, S_s, toNat_succ, Int.toNat_natCast, cast_lt, cast_le, decide_eq_true_eq, decide_eq_false_iff_not, beq_iff_eq, beq_eq_false_iff_ne, cc_0, cc_1, cc_2, false_and, and_false, not_false_eq_true, not_true_eq_false, false_implies, implies_true, and_true, true_and, Bool.true_eq_false, Bool.false_eq_true, hlt, ho, hgp, hn, hns, hat, hwa, hs1, hw1, r0, r1, r2, r3, r4, r5, oneS, othS, nosS, beq_self_eq_true] at h ⊢
      all_goals first
        | (unfold anyB; exact decide_eq_true (h1 hlt (by rw [hB]; simp; omega)))
        | (have hst := h2 hlt (by rw [hB]; simp; omega)
           and_intros <;> first | omega | (rw [if_pos (by omega)]) | (rw [if_neg (by omega)]))
        | trace_state
  · have hre : r = (o.v 7600).T.length := by omega
    have hge' : ¬ r < (o.v 7600).T.length := by omega
    have hany : anyB (B5 (o.v 7600)) (o.v 7600).T.length = false := by unfold anyB; exact decide_eq_false (h3 hge')
    and_intros
    all_goals intro h
    all_goals simp only [hold_cons_iff, hold_nil_iff, allT_cons, allT_nil, ob_e, ob_t, dB_lt, dB_le, dB_ieq, dB_seq, dB_not, dB_bl, dI_il, dI_sub, dI_add, dI_mul, dI_tlen, dI_mn, d_cell, d_uf, d_cel, d_v, d_il, d_bl, d_sl, d_add, d_mul, d_tlen, dT_take, hu, UF_80, UF_81, UF_82, UF_83, UF_84, UF_85, UF_86, UF_87, ar_0, ar_1, ar_2, ar_3, ar_4, hr, T_t, T_i, I_i, B_b, S_s, toNat_succ, Int.toNat_natCast, cast_lt, cast_le, decide_eq_true_eq, decide_eq_false_iff_not, beq_iff_eq, beq_eq_false_iff_ne, cc_0, cc_1, cc_2, false_and, and_false, not_false_eq_true, not_true_eq_false, false_implies, implies_true, and_true, true_and, Bool.true_eq_false, Bool.false_eq_true, hge', hany] at h ⊢
    refine ⟨rfl, by rw [ops_len, hre]; exact Nat.le_refl _, by rw [at_len]; omega, by rw [want_len]; omega, List.take_of_length_le (by rw [ops_len, hre]; exact Nat.le_refl _), List.take_of_length_le (by rw [at_len]; omega), List.take_of_length_le (by rw [want_len]; omega)⟩
theorem tn2 : Int.toNat 2 = 2 := id rfl
theorem tn3 : Int.toNat 3 = 3 := id rfl
theorem tn4 : Int.toNat 4 = 4 := id rfl
theorem tn5 : Int.toNat 5 = 5 := id rfl
theorem cn2 : ((2 : Nat) : Int) = 2 := id rfl
theorem cn3 : ((3 : Nat) : Int) = 3 := id rfl
theorem cn6 : ((6 : Nat) : Int) = 6 := id rfl
theorem rn0_all (hu : o.uf = UF) (hr : o.v 2024 = .i 0) (hle : 0 ≤ stop (B5 (o.v 7600)) (o.v 7600).T.length) (hlen : (o.v 7600).T.length ≤ 60) 
    (hi : 0 ≤ (o.v 7601).I ∧ (o.v 7601).I ≤ (o.v 7602).I) (hm : (o.v 7602).I ≤ 1099511627776) : AllL o rn0L := by
  have hs := @stop_le (B5 (o.v 7600)) (o.v 7600).T.length
  have h2 := @stop_no (B5 (o.v 7600)) (o.v 7600).T.length 0 hle
  have h1 := @stop_yes (B5 (o.v 7600)) (o.v 7600).T.length 0 hle
  have h3 := @stop_end (B5 (o.v 7600)) (o.v 7600).T.length 0 hle
  have hsum := sum_ok' (d := o.v 7600) 0 fun j hj => stop_before (n := (o.v 7600).T.length) (by omega)
  have hwt := wt_ok (d := o.v 7600) hi 0
  have hB : B5 (o.v 7600) 0 = (decide (gap (o.v 7600) 0 < 0) || decide (35184372088832 < gap (o.v 7600) 0)) := rfl
  have hgp : (cc (row (o.v 7600) 0) 0).I = gap (o.v 7600) 0 := rfl
  have hw1 : wtN (o.v 7600) (o.v 7601).I (o.v 7602).I 1 = (o.v 7601).I := if_pos (.inl rfl)
  have hs0 : sumG (o.v 7600) 0 = 0 := rfl
  have hwz : wtN (o.v 7600) (o.v 7601).I (o.v 7602).I 0 = 0 := rfl
  have hs1 : sumG (o.v 7600) 1 = sumG (o.v 7600) 0 + gap (o.v 7600) 0 := rfl
  simp only [rn0L, allL_cons, allL_nil, and_true]
  rcases Nat.lt_or_ge 0 (o.v 7600).T.length with hlt | hge
  · have hat := at_at (d := o.v 7600) (oth := (o.v 7603).B) hlt
    have hwa := want_at (d := o.v 7600) (a := (o.v 7601).I) (m := (o.v 7602).I) hlt
    have rj := fun j => ops_at (d := o.v 7600) (oth := (o.v 7603).B) (j := j) hlt
    cases ho : (o.v 7603).B with
    | false =>
      rw [ho] at hat rj
      have hn : nN false = 3 := rfl
      have r0 : row (.t (opsT (o.v 7600) false)) 0 = [.i 8, nosS, .i (gap (o.v 7600) 0)] := rj 0 (by decide)
      have r1 : row (.t (opsT (o.v 7600) false)) (1) = [.i 1, oneS, .i (sumG (o.v 7600) 0 + gap (o.v 7600) 0)] := rj 1 (by decide)
      have r2 : row (.t (opsT (o.v 7600) false)) (2) = [.i 3, oneS, .i 0] := rj 2 (by decide)
      and_intros
      all_goals intro h
      all_goals simp only [hold_cons_iff, hold_nil_iff, allT_cons, allT_nil, ob_e, ob_t, dB_lt, dB_le, dB_ieq, dB_seq, dB_not, dB_bl, dI_il, dI_sub, dI_add, dI_mul, dI_tlen, dI_mn, d_cell, d_uf, d_cel, d_v, d_il, d_bl, d_sl, d_add, d_mul, d_tlen, dT_take, hu, UF_80, UF_81, UF_82, UF_83, UF_84, UF_85, UF_86, UF_87, ar_0, ar_1, ar_2, ar_3, ar_4, hr, T_t, T_i, I_i, B_b, S_s, toNat_succ, Int.toNat_natCast, Int.toNat_zero, Int.toNat_one, tn2, tn3, tn4, tn5, cn2, cn3, cn6, Int.zero_add, Nat.mul_zero, Nat.mul_one, Nat.zero_add, hs0, hwz, cast_lt, cast_le, decide_eq_true_eq, decide_eq_false_iff_not, beq_iff_eq, beq_eq_false_iff_ne, cc_0, cc_1, cc_2, false_and, and_false, not_false_eq_true, not_true_eq_false, false_implies, implies_true, and_true, true_and, Bool.true_eq_false, Bool.false_eq_true, hlt, ho, hgp, hn, hat, hwa, hs1, hw1, r0, r1, r2, oneS, nosS, beq_self_eq_true] at h ⊢
      all_goals first
        | (unfold anyB; exact decide_eq_true (h1 hlt (by rw [hB]; simp; omega)))
        | (have hst := h2 hlt (by rw [hB]; simp; omega)
           and_intros <;> first | omega | (rw [if_pos (by omega)]) | (rw [if_neg (by omega)]))
        | trace_state
    | true =>
      rw [ho] at hat rj
      have hn : nN true = 6 := rfl
      have r0 : row (.t (opsT (o.v 7600) true)) 0 = [.i 8, nosS, .i (gap (o.v 7600) 0)] := rj 0 (by decide)
      have r1 : row (.t (opsT (o.v 7600) true)) (1) = [.i 1, oneS, .i (sumG (o.v 7600) 0 + gap (o.v 7600) 0)] := rj 1 (by decide)
      have r2 : row (.t (opsT (o.v 7600) true)) (2) = [.i 3, oneS, .i 0] := rj 2 (by decide)
      have r3 : row (.t (opsT (o.v 7600) true)) (3) = [.i 1, othS, .i (sumG (o.v 7600) 0 + gap (o.v 7600) 0)] := rj 3 (by decide)
      have r4 : row (.t (opsT (o.v 7600) true)) (4) = [.i 6, nosS, .i 0] := rj 4 (by decide)
      have r5 : row (.t (opsT (o.v 7600) true)) (5) = [.i 2, othS, .i 0] := rj 5 (by decide)
      and_intros
      all_goals intro h
      all_goals simp only [hold_cons_iff, hold_nil_iff, allT_cons, allT_nil, ob_e, ob_t, dB_lt, dB_le, dB_ieq, dB_seq, dB_not, dB_bl, dI_il, dI_sub, dI_add, dI_mul, dI_tlen, dI_mn, d_cell, d_uf, d_cel, d_v, d_il, d_bl, d_sl, d_add, d_mul, d_tlen, dT_take, hu, UF_80, UF_81, UF_82, UF_83, UF_84, UF_85, UF_86, UF_87, ar_0, ar_1, ar_2, ar_3, ar_4, hr, T_t, T_i, I_i, B_b, S_s, toNat_succ, Int.toNat_natCast, Int.toNat_zero, Int.toNat_one, tn2, tn3, tn4, tn5, cn2, cn3, cn6, Int.zero_add, Nat.mul_zero, Nat.mul_one, Nat.zero_add, hs0, hwz, cast_lt, cast_le, decide_eq_true_eq, decide_eq_false_iff_not, beq_iff_eq, beq_eq_false_iff_ne, cc_0, cc_1, cc_2, false_and, and_false, not_false_eq_true, not_true_eq_false, false_implies, implies_true, and_true, true_and, Bool.true_eq_false, Bool.false_eq_true, hlt, ho, hgp, hn, hat, hwa, hs1, hw1, r0, r1, r2, r3, r4, r5, oneS, othS, nosS, beq_self_eq_true] at h ⊢
      all_goals first
        | (unfold anyB; exact decide_eq_true (h1 hlt (by rw [hB]; simp; omega)))
        | (have hst := h2 hlt (by rw [hB]; simp; omega)
           and_intros <;> first | omega | (rw [if_pos (by omega)]) | (rw [if_neg (by omega)]))
        | trace_state
  · have hre : 0 = (o.v 7600).T.length := by omega
    have hge' : ¬ 0 < (o.v 7600).T.length := by omega
    have hz : ¬ ((0 : Int) < ((o.v 7600).T.length : Int)) := by omega
    have hany : anyB (B5 (o.v 7600)) (o.v 7600).T.length = false := by unfold anyB; exact decide_eq_false (h3 hge')
    and_intros
    all_goals intro h
    all_goals simp only [hold_cons_iff, hold_nil_iff, allT_cons, allT_nil, ob_e, ob_t, dB_lt, dB_le, dB_ieq, dB_seq, dB_not, dB_bl, dI_il, dI_sub, dI_add, dI_mul, dI_tlen, dI_mn, d_cell, d_uf, d_cel, d_v, d_il, d_bl, d_sl, d_add, d_mul, d_tlen, dT_take, hu, UF_80, UF_81, UF_82, UF_83, UF_84, UF_85, UF_86, UF_87, ar_0, ar_1, ar_2, ar_3, ar_4, hr, T_t, T_i, I_i, B_b, S_s, toNat_succ, Int.toNat_natCast, Int.toNat_zero, Int.toNat_one, tn2, tn3, tn4, tn5, cn2, cn3, cn6, Int.zero_add, Nat.mul_zero, Nat.mul_one, Nat.zero_add, hs0, hwz, cast_lt, cast_le, decide_eq_true_eq, decide_eq_false_iff_not, beq_iff_eq, beq_eq_false_iff_ne, cc_0, cc_1, cc_2, false_and, and_false, not_false_eq_true, not_true_eq_false, false_implies, implies_true, and_true, true_and, Bool.true_eq_false, Bool.false_eq_true, hge', hz, hany] at h ⊢
    have e0 : (o.v 7600).T.length = 0 := by omega
    have e1 : opsT (o.v 7600) (o.v 7603).B = [] := List.length_eq_zero_iff.1 (by rw [ops_len, e0, Nat.mul_zero])
    have e2 : atT (o.v 7600) (o.v 7603).B = [] := List.length_eq_zero_iff.1 (by rw [at_len, e0])
    have e3 : wantT (o.v 7600) (o.v 7601).I (o.v 7602).I = [] := List.length_eq_zero_iff.1 (by rw [want_len, e0])
    rw [e1, e2, e3]
    exact ⟨rfl, rfl, rfl, rfl⟩
end
end Go.Proofs.Ytagpchabkplggaa.sxBackoff

namespace Go.Proofs.Ytagpchabkplggaa.sxBackoff
open Go.Sx Go.RowKit
set_option linter.unusedVariables false
set_option linter.unusedSimpArgs false
set_option maxRecDepth 100000

theorem rn0_obl : rnY.obl Try.prog 0 = some rn0L := by kernel_rfl
theorem rn1_obl : rnY.obl Try.prog 1 = some rn1L := by kernel_rfl
theorem ck_obl : ckY.obl Try.prog 0 = some ckL := by kernel_rfl
theorem lawR_obl : lawObl Try.prog cR.x 5 [.int .i64, .int .i64, .dsl inK, .bool] 80 = some lawRL := by kernel_rfl
section
variable {o : Env}
theorem liveC_ok (A : Anchor) : ExtOk Try.prog o A (rnY.X.toExt Try.prog) := by
  refine Ctr.ok (c := ⟨[(14, shutP true)], []⟩) (by kernel_rfl) (fun x hx => ?_) (fun x hx => by cases hx) A
  rcases List.mem_cons.1 hx with rfl | hx
  · exact shut_ok plain mixed live_says
  · cases hx
theorem rn_ent {e : Env} (h : (rnY.ent 0).Hold e) : (e.v 7600).T.length ≤ 60 ∧ (0 ≤ (e.v 7601).I ∧ (e.v 7601).I ≤ (e.v 7602).I) ∧ (e.v 7602).I ≤ 1099511627776 := by
  simp only [rnY, rnF, hold_cons_iff, hold_nil_iff, dB_le, dI_il, dI_tlen, d_v, decide_eq_true_eq, and_true] at h
  omega
theorem rn_ok (hu : o.uf = UF) : LpOk Try.prog o 5 10 rnY.lpP := by
  refine two_ok plain mixed (D := rnY) (by kernel_rfl) (fun e => stop (B5 (e.v 7600)) (e.v 7600).T.length) rn0_obl rn1_obl (fun m h => m_of h) (fun m h => m_of h) (fun n => ?_) (fun e i u A he h hi => liveC_ok A)
    (fun e he h u => ?_) (fun e he h i u h0 hi => ?_) (fun e he h u => ?_) (fun e he h i u h0 hi => ?_) (fun e he h i u hi hl => ?_)
  · match n with
    | 0 => rfl
    | 1 => rfl
    | n + 2 => rfl
  · obtain ⟨h1, h2, h3⟩ := rn_ent h
    exact rn0_all (o := rnY.env e u 0) (he.uf.trans hu) rfl (Nat.zero_le _) h1 h2 h3
  · obtain ⟨h1, h2, h3⟩ := rn_ent h
    exact rn1_all (o := rnY.env e u i) (r := i) (he.uf.trans hu) rfl hi h1 h0 h2 h3
  · obtain ⟨h1, h2, h3⟩ := rn_ent h
    simp only [rnY, rnF, r24, List.cons_append, List.nil_append, hold_cons_iff, hold_nil_iff, dB_le, dB_lt, dB_ieq, dI_il, dI_tlen, d_v, LoopY.env, if_true, if_false, Nat.reduceEqDiff, I_i, decide_eq_true_eq, beq_iff_eq, and_true]
    omega
  · obtain ⟨h1, h2, h3⟩ := rn_ent h
    have hu' := he.uf.trans hu
    have hs := @stop_le (B5 (e.v 7600)) (e.v 7600).T.length
    have hn : nN (e.v 7603).B * i ≤ 360 := by
      have : nN (e.v 7603).B ≤ 6 := by unfold nN; split <;> omega
      exact Nat.le_trans (Nat.mul_le_mul this (show i ≤ 60 by omega)) (by decide)
    simp only [rnY, rnF, r24, rB, pk, List.foldr, List.cons_append, List.nil_append, hold_cons_iff, hold_nil_iff, dB_le, dB_lt, dB_ieq, dI_il, dI_tlen, d_v, d_uf, d_cel, LoopY.env, hu', UF_80, ar_0, ar_1, ar_2, ar_3, ar_4, if_true, if_false, Nat.reduceEqDiff, I_i, Int.toNat_natCast, decide_eq_true_eq, beq_iff_eq, and_true]
    omega
  · have hu' := he.uf.trans hu
    simp only [rnY, r24, pk, List.foldr, dB_lt, d_uf, d_cel, d_v, d_il, LoopY.env, hu', UF_85, ar_0, if_true, if_false, Nat.reduceEqDiff, I_i, decide_eq_true_eq] at hl
    omega
theorem ck_ent {e : Env} (hu : e.uf = UF) (h : (ckY.ent 0).Hold e) : Says (e.v 7700).T (e.v 7701).T (e.v 7702).T ∧ (e.v 7702).T.length = (e.v 7700).T.length ∧ (e.v 7700).T.length ≤ 60 := by
  simp only [ckY, ckF, ckA, pk, List.foldr, hold_cons_iff, hold_nil_iff, dB_le, dB_ieq, dI_il, dI_tlen, d_v, d_uf, d_cel, hu, UF_88, ar_0, ar_1, ar_2, B_b, dec_iff, decide_eq_true_eq, beq_iff_eq, and_true] at h
  obtain ⟨h1, h2, h3⟩ := h
  exact ⟨h1, by omega, by omega⟩
theorem row_T (d : Dv) (n : Nat) : row d n = row (.t d.T) n := id rfl
theorem ck_all {r : Nat} (hr : o.v 2025 = .i r) (hs : Says (o.v 7700).T (o.v 7701).T (o.v 7702).T) (hl : (o.v 7702).T.length = (o.v 7700).T.length) : AllL o ckL := by
  simp only [ckL, allL_cons, allL_nil, and_true]
  rcases Nat.lt_or_ge r (o.v 7700).T.length with hlt | hge
  · obtain ⟨k, h1, h2, h3⟩ := hs r hlt
    rw [← row_T] at h1
    have h3 : (cc (row (o.v 7701) k) 1).I = (cc (row (o.v 7702) r) 0).I := h3
    and_intros
    all_goals intro h
    all_goals simp only [hold_cons_iff, hold_nil_iff, allT_cons, allT_nil, ob_e, dB_lt, dB_le, dB_ieq, dB_not, dB_bl, dI_il, dI_tlen, d_cell, d_v, d_il, hr, h1, h3, cc_0, I_i, B_b, Int.toNat_natCast, decide_eq_true_eq, decide_eq_false_iff_not, beq_iff_eq, beq_eq_false_iff_ne, not_true_eq_false, false_and, and_true, true_and, ne_eq, Bool.true_eq_false, beq_self_eq_true] at h ⊢
    all_goals omega
  · and_intros
    all_goals intro h
    all_goals simp only [hold_cons_iff, hold_nil_iff, allT_cons, allT_nil, ob_e, dB_lt, dI_tlen, d_v, hr, I_i, decide_eq_true_eq] at h ⊢
    all_goals omega
theorem ck_ok (hu : o.uf = UF) : LpOk Try.prog o 5 28 ckY.lpP := by
  refine one_ok plain mixed (D := ckY) (by kernel_rfl) (fun e => (e.v 7700).T.length) ck_obl (fun m h => m_of h) (fun m h => m_of h) (fun _ => rfl) (fun _ _ _ _ _ _ _ => extOk_none)
    (fun e he h i u hi => ?_) (fun e he h i u hi => ?_) (fun e he h i u hi hl => ?_)
  · obtain ⟨h1, h2, h3⟩ := ck_ent (he.uf.trans hu) h
    exact ck_all (o := ckY.env e u i) (r := i) rfl h1 h2
  · have h0 : Facts.Hold (ckY.env e u i) ckF := by
      have h1 : Facts.Hold e ckF := h
      have hu' := he.uf.trans hu
      simp only [ckF, ckA, pk, List.foldr, hold_cons_iff, hold_nil_iff, dB_le, dB_ieq, dI_il, dI_tlen, d_v, d_uf, d_cel, LoopY.env, ckY, if_true, if_false, Nat.reduceEqDiff] at h1 ⊢
      exact h1
    show Facts.Hold (ckY.env e u i) ([(.o2 .le (.il 0) r25, true), (.o2 .le r25 (.o1 .tlen (.v 7700)), true)] ++ ckF)
    refine hold_append_iff.2 ⟨?_, h0⟩
    simp only [hold_cons_iff, hold_nil_iff, r25, dB_le, dI_il, dI_tlen, d_v, LoopY.env, ckY, if_true, if_false, Nat.reduceEqDiff, I_i, decide_eq_true_eq, and_true]
    omega
  · simp only [ckY, r25, dB_lt, dI_tlen, d_v, LoopY.env, if_true, if_false, Nat.reduceEqDiff, I_i, decide_eq_true_eq] at hl
    omega
theorem cR_ok (hu : o.uf = UF) (A : Anchor) : ExtOk Try.prog o A (cR.x.toExt Try.prog) := by
  refine Ctr.ok (by kernel_rfl) (fun x hx => ?_) (fun x hx => ?_) A
  · have hx : x ∈ [(15, bkFn.funP), (14, shutP true)] := hx
    simp only [List.mem_cons, List.not_mem_nil, or_false] at hx
    rcases hx with rfl | rfl
    · exact bkFn_ok hu
    · exact shut_ok plain mixed live_says
  have hx : x ∈ [(5, 10, rnY.lpP), (5, 28, ckY.lpP)] := hx
  simp only [List.mem_cons, List.not_mem_nil, or_false] at hx
  rcases hx with rfl | rfl
  · exact rn_ok hu
  · exact ck_ok hu
theorem good_ops {d : Dv} {oth : Bool} (h : GapsOk d) : good (.t (opsT d oth)) = true := by
  unfold good
  rw [anyB_of fun n hn => ?_]; rfl
  have hl : n < (opsT d oth).length := hn
  have hm : (opsT d oth)[n]? = some ((opsT d oth)[n]'hl) := List.getElem?_eq_getElem hl
  have hmem : (opsT d oth)[n]'hl ∈ opsT d oth := List.getElem_mem hl
  obtain ⟨i, hi, hc⟩ := List.mem_flatMap.1 hmem
  have hi := List.mem_range.1 hi
  have h1 := h.gap i hi
  have h2 := sum_ok h i (by omega)
  have h3 := h.len
  unfold B3
  rw [show row (.t (opsT d oth)) n = (opsT d oth)[n]'hl by show ((opsT d oth)[n]?).getD [] = _; rw [hm]; rfl]
  generalize (opsT d oth)[n]'hl = x at hc
  have hsz1 : ((oneS.S.size : Nat) : Int) ≤ 40 := by decide +kernel
  have hsz2 : ((othS.S.size : Nat) : Int) ≤ 40 := by decide +kernel
  have hsz3 : ((nosS.S.size : Nat) : Int) ≤ 40 := by decide +kernel
  have key : ∀ (k t : Int) (s : Dv), ((s.S.size : Nat) : Int) ≤ 40 → 1 ≤ k → k ≤ 8 → 0 ≤ t → t ≤ 9007199254740992 → (k = 8 → t ≤ 1125899906842624) → (!okOp [.i k, s, .i t]) = false := by
    intro k t s a b c d' e f
    have g : okOp [.i k, s, .i t] = true := by
      unfold okOp
      show (decide (1 ≤ k) && decide (k ≤ 8) && decide (((s.S.size : Nat) : Int) ≤ 40) && decide (-9007199254740992 ≤ t) && decide (t ≤ 9007199254740992) && (!(k == 8) || (decide (0 ≤ t) && decide (t ≤ 1125899906842624)))) = true
      simp only [Bool.and_eq_true, Bool.or_eq_true, Bool.not_eq_true', decide_eq_true_eq, beq_eq_false_iff_ne, ne_eq]
      refine ⟨⟨⟨⟨⟨b, c⟩, a⟩, by omega⟩, e⟩, ?_⟩
      by_cases hk : k = 8
      · exact .inr ⟨d', f hk⟩
      · exact .inl hk
    rw [g]; rfl
  unfold chunk at hc
  cases oth <;> simp only [Bool.false_eq_true, if_true, if_false, List.append_nil, List.cons_append, List.nil_append, List.mem_cons, List.not_mem_nil, or_false] at hc
  · rcases hc with rfl | rfl | rfl <;> exact key _ _ _ (by assumption) (by decide) (by decide) (by omega) (by omega) (by omega)
  · rcases hc with rfl | rfl | rfl | rfl | rfl | rfl <;> exact key _ _ _ (by assumption) (by decide) (by decide) (by omega) (by omega) (by omega)
theorem lawR_all (hu : o.uf = UF) : AllL o lawRL := by
  simp only [lawRL, allL_cons, allL_nil, and_true]
  and_intros
  all_goals intro h
  all_goals simp only [hold_cons_iff, hold_nil_iff, allT_cons, allT_nil, ob_e, ob_t, dB_lt, dB_le, dB_ieq, dB_not, dB_bl, dI_il, dI_tlen, d_v, d_uf, d_cel, d_il, hu, UF_63, UF_64, UF_81, UF_82, UF_83, UF_84, UF_86, UF_87, UF_88, ar_0, ar_1, ar_2, ar_3, ar_4, I_i, B_b, T_i, T_t, Int.toNat_zero, answers_len, at_len, want_len, ops_len, dec_iff, decide_eq_true_eq, decide_eq_false_iff_not, and_true, true_and] at h ⊢
  all_goals try (exact trivial)
  · exact ⟨rfl, rfl⟩
  · have hg : GapsOk (o.v 64) := gaps_of (by omega) h.1
    have hm : 0 ≤ (o.v 32).I := by omega
    have hn : nN (o.v 96).B * (o.v 64).T.length ≤ 360 := by
      have : nN (o.v 96).B ≤ 6 := by unfold nN; split <;> omega
      exact Nat.le_trans (Nat.mul_le_mul this hg.len) (by decide)
    exact ⟨by have := hg.len; omega, says_ok hm, good_ops hg, by omega, rfl, rfl⟩
  · exact absurd h.1 (by simp)
end

/-! ### the law -/
def ksR : List PK := [.int .i64, .int .i64, .dsl inK, .bool]
theorem ownR : ownKnob Try.prog.godebug = none := by kernel_rfl
theorem laidR : laidOutB Try.prog = true := by kernel_rfl
theorem rn_contract (H : Type) (enc : TypeId × Value → H) (W : World) (base : Nat) (args : Array Value) (ds gs : List (DataW H)) (before : List MemPlace)
    (hval : ∀ (j : Nat) t v, Try.f5.params[j]? = some t → args[j]? = some v → Value.okWide Try.prog W .any base t v)
    (hW : DataW.Whole enc Try.prog Try.f5.params.toList Rows.fnBackoffRunsSpec.vars false W args.toList ds gs before) :
    Calls Try.prog 5 args W fun e W' => ∃ v, e = .returned v ∧ Rows.fnBackoffRunsSpec.post enc Try.prog Try.f5 false true false false W args v W' :=
  law_contract laidR (ks := ksR) (tb := 4) (by kernel_rfl) (by kernel_rfl) (by kernel_rfl) (by kernel_rfl) rfl
    (fun ds hd => by
      match ds, hd with
      | [d, e, f, g], _ => rfl) (fun vs hl hall => law_walk plain mixed (by decide) lawR_obl (fun o A hu => cR_ok hu A) (fun o hu => lawR_all hu) W vs hl hall) hval hW

theorem rn_lifted (os : Os) (started : os.Started) (H : Type) (enc : TypeId × Value → H) :
    ReturnsInHanded {} Try.checked os 5 .any (Rows.fnBackoffRunsSpec.pre6 enc Try.prog Try.f5 Rows.fnBackoffRunsRow.domain false) (Rows.fnBackoffRunsSpec.post enc Try.prog Try.f5 false true false false) := by
  refine returnsInHanded_of_change (C := Try.checked) (s := Rows.fnBackoffRunsSpec) ownR started (by kernel_rfl) Try.func5
    (ChangeSpec.witness6 (enc := enc) (C := Try.checked) false ⟨#[], #[.int .i64 0, .int .i64 0, .slice none 0 0, .bool false], []⟩ 8 (by kernel_rfl) (by kernel_rfl) (by kernel_rfl) (by kernel_rfl)) ?_
  intro W base args ds gs before hval hW _ _
  exact rn_contract H enc W base args ds gs before hval hW

theorem rnProved : Rows.FnBackoffRunsSaid :=
  OpenClaim.holds_of_wide 5 Try.f5 rfl rfl rfl rfl rfl rfl rfl ⟨rfl, rfl, rfl, rfl, rfl⟩ rfl rfl rfl rfl rfl (by kernel_rfl) Try.func5 (by kernel_rfl)
    (of_decide_eq_true (by kernel_rfl)) (by unfold Func.isWrapper; first | (rw [if_pos (by decide +kernel)]; kernel_rfl) | (rw [if_neg (by decide +kernel)]; exact ⟨rfl, rfl⟩))
    (fun os started H enc _ => rn_lifted os started H enc)

end Go.Proofs.Ytagpchabkplggaa.sxBackoff
