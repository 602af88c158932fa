/-
  THE LAW FnPagesAnswers (proved): whatever a server answers to each call, a pager asks, and tells, what the model says. No conditions beside the law's own guards.
-/
import Derived.Test.YtgopjdknmjjheaaSxPgA
import Derived.Test.YtgopjdknmjjheaaSxPgQ
import Derived.Test.YtgopjdknmjjheaaSxMLoopH
namespace Go.Proofs.Ytgopjdknmjjheaa.sxPages
open Go.Sx
set_option linter.unusedVariables false
abbrev qk0 : E := .o2 .lt (.il 2147483647) (.o1 .size (.v 2))
abbrev qk1 : Facts := [((.o2 .le (.il (-9223372036854775808)) (.v 0)), true), ((.o2 .le (.v 0) (.il 9223372036854775807)), true), ((.o2 .le (.il (-9223372036854775808)) (.v 4)), true), ((.o2 .le (.v 4) (.il 9223372036854775807)), true), ((.o2 .le (.o1 .tlen (.v 32)) (.il 9223372036854775807)), true)]
abbrev qk2 : E := .o2 .lt (.il 2147483647) (.o1 .size (.v 3))
abbrev qk3 : Facts := ((qk0, false) : E × Bool) :: qk1
abbrev qk4 : E := .o2 .lt (.il 2147483647) (.o1 .tlen (.v 32))
abbrev qk5 : Facts := ((qk2, false) : E × Bool) :: qk3
abbrev qk6 : Facts := ((qk4, false) : E × Bool) :: qk5
abbrev qk7 : Facts := (((.uf 3 (.o2 .cel (.v 32) (.il 0))), false) : E × Bool) :: qk6
abbrev qk8 : Facts := (((.o2 .lt (.v 0) (.il 0)), false) : E × Bool) :: qk7
abbrev qk9 : Facts := (((.o2 .lt (.il 10000) (.v 0)), false) : E × Bool) :: qk8
abbrev qk10 : Facts := (((.o2 .lt (.v 4) (.il 0)), false) : E × Bool) :: qk9
abbrev qk11 : E := .o2 .lt (.il 40) (.o1 .size (.v 2))
abbrev qk12 : Facts := (((.o2 .lt (.il 10000) (.v 4)), false) : E × Bool) :: qk10
abbrev qk13 : E := .o2 .lt (.il 40) (.o1 .size (.v 3))
abbrev qk14 : Facts := ((qk11, false) : E × Bool) :: qk12
abbrev qk15 : E := .o2 .lt (.il 60) (.o1 .tlen (.v 32))
abbrev qk16 : Facts := ((qk13, false) : E × Bool) :: qk14
abbrev qk17 : Facts := ((qk15, false) : E × Bool) :: qk16
abbrev qk18 : E := .o2 .cel (.v 1) (.o2 .cel (.v 2) (.o2 .cel (.v 3) (.o2 .cel (.v 0) (.o2 .cel (.v 32) (.il 0)))))
abbrev qk19 : E := .o2 .ieq (.il 98) (.uf 28 qk18)
abbrev qk20 : E := .o2 .ieq (.uf 24 qk18) (.il 1)
abbrev qk21 : Facts := (((.uf 7 (.o2 .cel (.v 32) (.il 0))), false) : E × Bool) :: qk17
abbrev qk22 : Facts := (((.o2 .ieq (.v 4) (.il 0)), true) : E × Bool) :: qk21
abbrev qk23 : Facts := ((qk20, true) : E × Bool) :: qk22
abbrev qk24 : List Ob := [(.t (.il 0) (.uf 23 (.o2 .cel (.v 32) (.o2 .cel (.il 0) (.il 0)))))]
abbrev qk25 : List Ob := ((.e (.bl true)) : Ob) :: ((.e (.o2 .le (.o1 .tlen (.uf 25 qk18)) (.il 9223372036854775807))) : Ob) :: qk24
abbrev qk26 : List Ob := ((.e (.bl false)) : Ob) :: qk24
abbrev qk27 : E := .o2 .ieq (.il 8) (.uf 28 qk18)
abbrev qk28 : E := .o2 .ieq (.uf 24 qk18) (.il 2)
abbrev qk29 : Facts := ((qk20, false) : E × Bool) :: qk22
abbrev qk30 : Facts := ((qk28, true) : E × Bool) :: qk29
abbrev qk31 : E := .o2 .add (.uf 20 qk18) (.il 1)
abbrev qk32 : E := .uf 10 (.o2 .cel (.o2 (.cell 0) (.v 32) qk31) (.il 0))
abbrev qk33 : E := .o2 .cel qk32 (.il 0)
abbrev qk34 : E := .o2 .cel (.uf 26 qk18) (.il 0)
abbrev qk35 : E := .uf 40 (.o2 .cel (.uf 12 qk33) qk34)
abbrev qk36 : E := .o1 .tlen (.uf 12 qk33)
abbrev qk37 : E := .o1 .tlen (.uf 26 qk18)
abbrev qk38 : E := .o2 .ieq qk36 qk37
abbrev qk39 : E := .o2 .seq (.o2 (.cell 2) (.v 32) qk31) (.uf 27 qk18)
abbrev qk40 : E := .o2 .ieq (.uf 24 qk18) (.il 3)
abbrev qk41 : Facts := ((qk28, false) : E × Bool) :: qk29
abbrev qk42 : Facts := ((qk40, true) : E × Bool) :: qk41
abbrev qk43 : Facts := ((qk39, true) : E × Bool) :: qk42
abbrev qk44 : Facts := ((qk38, true) : E × Bool) :: qk43
abbrev qk45 : List Ob := [(.e (.o2 .le (.o1 .tlen (.uf 25 qk18)) (.il 9223372036854775807))), (.t (.il 0) (.uf 23 (.o2 .cel (.v 32) (.o2 .cel (.il 0) (.il 0))))), (.e (.uf 13 qk33)), (.e (.o2 .le (.o1 .tlen qk32) (.il 1000000)))]
abbrev qk46 : List Ob := ((.e (.o2 .le qk36 (.il 9223372036854775807))) : Ob) :: qk45
abbrev qk47 : List Ob := ((.e (.bl false)) : Ob) :: qk45
abbrev qk48 : E := .uf 10 (.o2 .cel (.o2 (.cell 0) (.v 32) (.il 0)) (.il 0))
abbrev qk49 : E := .o2 .cel qk48 (.il 0)
abbrev qk50 : E := .uf 40 (.o2 .cel (.uf 12 qk49) qk34)
abbrev qk51 : E := .o1 .tlen (.uf 12 qk49)
abbrev qk52 : E := .o2 .ieq qk51 qk37
abbrev qk53 : E := .o2 .seq (.o2 (.cell 2) (.v 32) (.il 0)) (.uf 27 qk18)
abbrev qk54 : E := .o2 .ieq (.uf 24 qk18) (.il 6)
abbrev qk55 : Facts := ((qk40, false) : E × Bool) :: qk41
abbrev qk56 : Facts := ((qk54, true) : E × Bool) :: qk55
abbrev qk57 : Facts := ((qk53, true) : E × Bool) :: qk56
abbrev qk58 : Facts := ((qk52, true) : E × Bool) :: qk57
abbrev qk59 : List Ob := [(.t (.il 0) (.uf 23 (.o2 .cel (.v 32) (.o2 .cel (.il 0) (.il 0))))), (.e (.uf 13 qk49)), (.e (.o2 .le (.o1 .tlen qk48) (.il 1000000)))]
abbrev qk60 : List Ob := ((.e (.o2 .le (.o1 .tlen (.uf 25 qk18)) (.il 9223372036854775807))) : Ob) :: qk59
abbrev qk61 : List Ob := ((.e (.o2 .le qk51 (.il 9223372036854775807))) : Ob) :: qk60
abbrev qk62 : List Ob := ((.e (.bl false)) : Ob) :: qk60
abbrev qk63 : E := .uf 22 (.o2 .cel (.v 32) (.o2 .cel qk31 (.il 0)))
abbrev qk64 : E := .o2 .cel qk63 (.il 0)
abbrev qk65 : E := .uf 40 (.o2 .cel (.uf 12 qk64) qk34)
abbrev qk66 : E := .o1 .tlen (.uf 12 qk64)
abbrev qk67 : E := .o2 .ieq qk66 qk37
abbrev qk68 : Facts := ((qk54, false) : E × Bool) :: qk55
abbrev qk69 : Facts := ((qk53, true) : E × Bool) :: qk68
abbrev qk70 : Facts := ((qk67, true) : E × Bool) :: qk69
abbrev qk71 : List Ob := [(.e (.o2 .le (.o1 .tlen (.uf 25 qk18)) (.il 9223372036854775807))), (.t (.il 0) (.uf 23 (.o2 .cel (.v 32) (.o2 .cel (.il 0) (.il 0))))), (.e (.uf 13 qk64)), (.e (.o2 .le (.o1 .tlen qk63) (.il 1000000)))]
abbrev qk72 : List Ob := ((.e (.o2 .le qk66 (.il 9223372036854775807))) : Ob) :: qk71
abbrev qk73 : List Ob := ((.e (.bl false)) : Ob) :: qk71
abbrev qk74 : E := .o2 .cel (.v 1) (.o2 .cel (.v 2) (.o2 .cel (.v 3) (.o2 .cel (.v 4) (.o2 .cel (.v 32) (.il 0)))))
abbrev qk75 : E := .o2 .ieq (.il 98) (.uf 28 qk74)
abbrev qk76 : E := .o2 .ieq (.uf 24 qk74) (.il 1)
abbrev qk77 : Facts := (((.o2 .ieq (.v 4) (.il 0)), false) : E × Bool) :: qk21
abbrev qk78 : Facts := ((qk76, true) : E × Bool) :: qk77
abbrev qk79 : List Ob := ((.e (.bl true)) : Ob) :: ((.e (.o2 .le (.o1 .tlen (.uf 25 qk74)) (.il 9223372036854775807))) : Ob) :: qk24
abbrev qk80 : E := .o2 .ieq (.il 8) (.uf 28 qk74)
abbrev qk81 : E := .o2 .ieq (.uf 24 qk74) (.il 2)
abbrev qk82 : Facts := ((qk76, false) : E × Bool) :: qk77
abbrev qk83 : Facts := ((qk81, true) : E × Bool) :: qk82
abbrev qk84 : E := .o2 .add (.uf 20 qk74) (.il 1)
abbrev qk85 : E := .uf 10 (.o2 .cel (.o2 (.cell 0) (.v 32) qk84) (.il 0))
abbrev qk86 : E := .o2 .cel qk85 (.il 0)
abbrev qk87 : E := .o2 .cel (.uf 26 qk74) (.il 0)
abbrev qk88 : E := .uf 40 (.o2 .cel (.uf 12 qk86) qk87)
abbrev qk89 : E := .o1 .tlen (.uf 12 qk86)
abbrev qk90 : E := .o1 .tlen (.uf 26 qk74)
abbrev qk91 : E := .o2 .ieq qk89 qk90
abbrev qk92 : E := .o2 .seq (.o2 (.cell 2) (.v 32) qk84) (.uf 27 qk74)
abbrev qk93 : E := .o2 .ieq (.uf 24 qk74) (.il 3)
abbrev qk94 : Facts := ((qk81, false) : E × Bool) :: qk82
abbrev qk95 : Facts := ((qk93, true) : E × Bool) :: qk94
abbrev qk96 : Facts := ((qk92, true) : E × Bool) :: qk95
abbrev qk97 : Facts := ((qk91, true) : E × Bool) :: qk96
abbrev qk98 : List Ob := [(.e (.o2 .le (.o1 .tlen (.uf 25 qk74)) (.il 9223372036854775807))), (.t (.il 0) (.uf 23 (.o2 .cel (.v 32) (.o2 .cel (.il 0) (.il 0))))), (.e (.uf 13 qk86)), (.e (.o2 .le (.o1 .tlen qk85) (.il 1000000)))]
abbrev qk99 : List Ob := ((.e (.o2 .le qk89 (.il 9223372036854775807))) : Ob) :: qk98
abbrev qk100 : List Ob := ((.e (.bl false)) : Ob) :: qk98
abbrev qk101 : E := .uf 40 (.o2 .cel (.uf 12 qk49) qk87)
abbrev qk102 : E := .o2 .ieq qk51 qk90
abbrev qk103 : E := .o2 .seq (.o2 (.cell 2) (.v 32) (.il 0)) (.uf 27 qk74)
abbrev qk104 : E := .o2 .ieq (.uf 24 qk74) (.il 6)
abbrev qk105 : Facts := ((qk93, false) : E × Bool) :: qk94
abbrev qk106 : Facts := ((qk104, true) : E × Bool) :: qk105
abbrev qk107 : Facts := ((qk103, true) : E × Bool) :: qk106
abbrev qk108 : Facts := ((qk102, true) : E × Bool) :: qk107
abbrev qk109 : List Ob := ((.e (.o2 .le (.o1 .tlen (.uf 25 qk74)) (.il 9223372036854775807))) : Ob) :: qk59
abbrev qk110 : List Ob := ((.e (.o2 .le qk51 (.il 9223372036854775807))) : Ob) :: qk109
abbrev qk111 : List Ob := ((.e (.bl false)) : Ob) :: qk109
abbrev qk112 : E := .uf 22 (.o2 .cel (.v 32) (.o2 .cel qk84 (.il 0)))
abbrev qk113 : E := .o2 .cel qk112 (.il 0)
abbrev qk114 : E := .uf 40 (.o2 .cel (.uf 12 qk113) qk87)
abbrev qk115 : E := .o1 .tlen (.uf 12 qk113)
abbrev qk116 : E := .o2 .ieq qk115 qk90
abbrev qk117 : Facts := ((qk104, false) : E × Bool) :: qk105
abbrev qk118 : Facts := ((qk103, true) : E × Bool) :: qk117
abbrev qk119 : Facts := ((qk116, true) : E × Bool) :: qk118
abbrev qk120 : List Ob := [(.e (.o2 .le (.o1 .tlen (.uf 25 qk74)) (.il 9223372036854775807))), (.t (.il 0) (.uf 23 (.o2 .cel (.v 32) (.o2 .cel (.il 0) (.il 0))))), (.e (.uf 13 qk113)), (.e (.o2 .le (.o1 .tlen qk112) (.il 1000000)))]
abbrev qk121 : List Ob := ((.e (.o2 .le qk115 (.il 9223372036854775807))) : Ob) :: qk120
abbrev qk122 : List Ob := ((.e (.bl false)) : Ob) :: qk120
def anL : List (Facts × List Ob) :=
  [((((qk0, true) : E × Bool) :: qk1),
    [(.e (.bl true))]),
   ((((qk2, true) : E × Bool) :: qk3),
    [(.e (.bl true))]),
   ((((qk4, true) : E × Bool) :: qk5),
    [(.e (.bl true))]),
   (((((.uf 3 (.o2 .cel (.v 32) (.il 0))), true) : E × Bool) :: qk6),
    [(.e (.bl true))]),
   (((((.o2 .lt (.v 0) (.il 0)), true) : E × Bool) :: qk7),
    [(.e (.bl true))]),
   (((((.o2 .lt (.il 10000) (.v 0)), true) : E × Bool) :: qk8),
    [(.e (.bl true))]),
   (((((.o2 .lt (.v 4) (.il 0)), true) : E × Bool) :: qk9),
    [(.e (.bl true))]),
   (((((.o2 .lt (.il 10000) (.v 4)), true) : E × Bool) :: qk10),
    [(.e (.bl true))]),
   ((((qk11, true) : E × Bool) :: qk12),
    [(.e (.bl true))]),
   ((((qk13, true) : E × Bool) :: qk14),
    [(.e (.bl true))]),
   ((((qk15, true) : E × Bool) :: qk16),
    [(.e (.bl true))]),
   (((((.uf 7 (.o2 .cel (.v 32) (.il 0))), true) : E × Bool) :: qk17),
    [(.e (.bl true))]),
   ((((qk19, true) : E × Bool) :: qk23),
    qk25),
   ((((qk19, false) : E × Bool) :: qk23),
    qk26),
   ((((qk27, true) : E × Bool) :: qk30),
    qk25),
   ((((qk27, false) : E × Bool) :: qk30),
    qk26),
   ((((qk35, true) : E × Bool) :: qk44),
    (((.e (.bl false)) : Ob) :: qk46)),
   ((((qk35, false) : E × Bool) :: qk44),
    (((.e (.bl true)) : Ob) :: qk46)),
   ((((qk38, false) : E × Bool) :: qk43),
    qk47),
   ((((qk39, false) : E × Bool) :: qk42),
    qk47),
   ((((qk50, true) : E × Bool) :: qk58),
    (((.e (.bl false)) : Ob) :: qk61)),
   ((((qk50, false) : E × Bool) :: qk58),
    (((.e (.bl true)) : Ob) :: qk61)),
   ((((qk52, false) : E × Bool) :: qk57),
    qk62),
   ((((qk53, false) : E × Bool) :: qk56),
    qk62),
   ((((qk65, true) : E × Bool) :: qk70),
    (((.e (.bl false)) : Ob) :: qk72)),
   ((((qk65, false) : E × Bool) :: qk70),
    (((.e (.bl true)) : Ob) :: qk72)),
   ((((qk67, false) : E × Bool) :: qk69),
    qk73),
   ((((qk53, false) : E × Bool) :: qk68),
    qk73),
   ((((qk75, true) : E × Bool) :: qk78),
    qk79),
   ((((qk75, false) : E × Bool) :: qk78),
    qk26),
   ((((qk80, true) : E × Bool) :: qk83),
    qk79),
   ((((qk80, false) : E × Bool) :: qk83),
    qk26),
   ((((qk88, true) : E × Bool) :: qk97),
    (((.e (.bl false)) : Ob) :: qk99)),
   ((((qk88, false) : E × Bool) :: qk97),
    (((.e (.bl true)) : Ob) :: qk99)),
   ((((qk91, false) : E × Bool) :: qk96),
    qk100),
   ((((qk92, false) : E × Bool) :: qk95),
    qk100),
   ((((qk101, true) : E × Bool) :: qk108),
    (((.e (.bl false)) : Ob) :: qk110)),
   ((((qk101, false) : E × Bool) :: qk108),
    (((.e (.bl true)) : Ob) :: qk110)),
   ((((qk102, false) : E × Bool) :: qk107),
    qk111),
   ((((qk103, false) : E × Bool) :: qk106),
    qk111),
   ((((qk114, true) : E × Bool) :: qk119),
    (((.e (.bl false)) : Ob) :: qk121)),
   ((((qk114, false) : E × Bool) :: qk119),
    (((.e (.bl true)) : Ob) :: qk121)),
   ((((qk116, false) : E × Bool) :: qk118),
    qk122),
   ((((qk103, false) : E × Bool) :: qk117),
    qk122)]
end Go.Proofs.Ytgopjdknmjjheaa.sxPages

namespace Go.Proofs.Ytgopjdknmjjheaa.sxPages
open Go.Sx Go.RowKit
set_option linter.unusedVariables false
set_option linter.unusedSimpArgs false
set_option maxRecDepth 100000

theorem kind_1 {full : Bool} {pg : Dv} (h7 : anyB (B7 pg) pg.T.length = false) (h : kindN full pg = 1) : errF full pg = 98 := by
  have g0 := (good_pg h7 (endN pg)).2
  have g1 := (good_pg h7 (endN pg + 1)).2
  unfold kindN at h
  unfold errF
  grind
theorem kind_2 {full : Bool} {pg : Dv} (h7 : anyB (B7 pg) pg.T.length = false) (h : kindN full pg = 2) : errF full pg = 8 := by
  have g0 := (good_pg h7 (endN pg)).2
  have g1 := (good_pg h7 (endN pg + 1)).2
  unfold kindN at h
  unfold errF
  grind
theorem kind_3 {full : Bool} {pg : Dv} (h : kindN full pg = 3) : 0 < endN pg ∧ namesF full pg = (nmsAt pg (endN pg + 1)).T ∧ rvF full pg = rvAt pg (endN pg + 1) := by
  refine ⟨?_, by unfold namesF; rw [if_pos h], by unfold rvF; rw [if_pos h]⟩
  unfold kindN again at h
  grind
theorem kind_6 {full : Bool} {pg : Dv} (h : kindN full pg = 6) : endN pg = 0 ∧ namesF full pg = nmsTo pg 1 ∧ rvF full pg = rvAt pg 0 := by
  have h0 : endN pg = 0 := by unfold kindN at h; grind
  have h3 : kindN full pg ≠ 3 := by rw [h]; decide
  exact ⟨h0, by unfold namesF; rw [if_neg h3, h0], by unfold rvF; rw [if_neg h3]⟩
theorem kind_7 {full : Bool} {pg : Dv} (h1 : kindN full pg ≠ 1) (h2 : kindN full pg ≠ 2) (h3 : kindN full pg ≠ 3) (h6 : kindN full pg ≠ 6) : 0 < endN pg ∧ namesF full pg = nmsTo pg (endN pg + 1) ∧ rvF full pg = rvAt pg 0 := by
  have h0 : 0 < endN pg := by unfold kindN at h1 h2 h3 h6; grind
  exact ⟨h0, by unfold namesF; rw [if_neg h3], by unfold rvF; rw [if_neg h3]⟩
def fst1 (l : List (List Dv)) : List (List Dv) := l.map fun r => [cc r 0]
theorem names_itms {d : Dv} : (itms d).map nameOf = fst1 d.T := by
  unfold itms fst1
  rw [List.map_map]; rfl
theorem names_to {pg : Dv} : ∀ r, (itmsTo pg r).map nameOf = fst1 (nmsTo pg r)
  | 0 => rfl
  | r + 1 => by
    rw [itmsTo_succ, nmsTo_succ, List.map_append, names_to r, names_itms]
    unfold fst1
    rw [List.map_append]
theorem fst1_len {l : List (List Dv)} : (fst1 l).length = l.length := by unfold fst1; simp
theorem len_to {pg : Dv} (r : Nat) : (itmsTo pg r).length = (nmsTo pg r).length := by
  have := congrArg List.length (@names_to pg r)
  rw [List.length_map, fst1_len] at this
  exact this
theorem tx_same {l : List (List Dv)} {n : Nat} (hn : n = l.length) : anyB (Btx (.t (fst1 l)) (.t l)) n = false := by
  subst hn
  refine anyB_of fun i hi => ?_
  unfold Btx
  have e : cc (row (.t (fst1 l)) i) 0 = cc (row (.t l) i) 0 := by
    show cc (((fst1 l)[i]?).getD []) 0 = cc ((l[i]?).getD []) 0
    unfold fst1
    rw [List.getElem?_map, List.getElem?_eq_getElem hi]; rfl
  rw [e]; simp
theorem ok_itms {d : Dv} : okIt (itms d) = true := by
  unfold okIt itms
  rw [List.all_map]
  exact List.all_eq_true.2 fun r _ => rfl
theorem ok_to {pg : Dv} : ∀ r, okIt (itmsTo pg r) = true
  | 0 => rfl
  | r + 1 => by
    rw [itmsTo_succ]
    unfold okIt at *
    rw [List.all_append, Bool.and_eq_true]
    exact ⟨ok_to r, ok_itms⟩
theorem nmsTo_1 {pg : Dv} : nmsTo pg 1 = (nmsAt pg 0).T := by rw [nmsTo_succ]; rfl
theorem callsF_len {full : Bool} {lim rv mt pg : Dv} : (callsF full lim rv mt pg).length ≤ endN pg + 2 := by
  unfold callsF
  rw [List.length_append, calls_len]
  split <;> simp
set_option maxHeartbeats 4000000 in
theorem an_all {o : Env} (hu : o.uf = UF) : AllL o anL := by
  simp only [anL, allL_cons, allL_nil, and_true]
  and_intros
  all_goals intro h
  all_goals simp only [hold_cons_iff, hold_nil_iff, allT_cons, allT_nil, ob_e, ob_t, dB_lt, dB_le, dB_ieq, dB_seq, dB_not, dB_beq, dB_bl, dB_or, dI_il, dI_add, dI_sub, dI_size, dI_tlen, dS_sl, d_v, d_uf, d_cel, d_cell, d_il, d_bl, d_sl, d_add, d_size, d_tlen, ar_0, ar_1, ar_2, ar_3, ar_4, I_i, B_b, S_s, T_i, T_t, Int.toNat_zero, toNat_succ, hu, UF_3, UF_7, UF_10, UF_12, UF_13, UF_20, UF_22, UF_23, UF_24, UF_25, UF_26, UF_27, UF_28, UF_40, decide_eq_true_eq, decide_eq_false_iff_not, and_true, Bool.not_eq_true', nosL, nmsTo_0, List.length_map] at h ⊢
  all_goals try (exact trivial)
  all_goals
    have h7 : anyB (B7 (o.v 32)) (o.v 32).T.length = false := by grind
    have k1 := kind_1 (full := (o.v 1).B) h7
    have k2 := kind_2 (full := (o.v 1).B) h7
    have k3 := @kind_3 (o.v 1).B (o.v 32)
    have k6 := @kind_6 (o.v 1).B (o.v 32)
    have k7 := @kind_7 (o.v 1).B (o.v 32)
    have hle := @end_le (o.v 32)
    have hl := itmsTo_len h7 (endN (o.v 32) + 1)
    have hg0 := (good_pg h7 0).1
    have hg1 := (good_pg h7 (endN (o.v 32) + 1)).1
    simp only [nmsAt, rvAt, nmsTo_1] at k3 k6 k7 hg0 hg1
    have hc4 := @callsF_len (o.v 1).B (o.v 4) (o.v 2) (o.v 3) (o.v 32)
    have hc0 := @callsF_len (o.v 1).B (o.v 0) (o.v 2) (o.v 3) (o.v 32)
    have ht := @len_to (o.v 32) (endN (o.v 32) + 1)
    have t1 := fun l => @tx_same l l.length rfl
    try simp only [names_itms, names_to, ok_itms, ok_to, fst1_len, itms_len, true_and] at h
    try simp only [names_itms, names_to, ok_itms, ok_to, fst1_len, itms_len, true_and]
  all_goals first
    | grind
    | skip
theorem an_obl : lawObl Try.prog (c5.xf litF) 4 [.struct [.int .i64, .bool, .str, .str, .int .i64], .dsl pgK] 80 = some anL := by kernel_rfl

/-! ### the law -/
def ks : List PK := [.struct [.int .i64, .bool, .str, .str, .int .i64], .dsl pgK]
theorem own : ownKnob Try.prog.godebug = none := by kernel_rfl
theorem laid : laidOutB Try.prog = true := by kernel_rfl
theorem an_contract (H : Type) (enc : TypeId × Value → H) (W : World) (base : Nat) (args : Array Value) (ds gs : List (DataW H)) (before : List MemPlace)
    (hval : ∀ (j : Nat) t v, Try.f4.params[j]? = some t → args[j]? = some v → Value.okWide Try.prog W .any base t v)
    (hW : DataW.Whole enc Try.prog Try.f4.params.toList Rows.fnPagesAnswersSpec.vars false W args.toList ds gs before) :
    Calls Try.prog 4 args W fun e W' => ∃ v, e = .returned v ∧ Rows.fnPagesAnswersSpec.post enc Try.prog Try.f4 false true false false W args v W' :=
  law_contract laid (ks := ks) (tb := 4) (by kernel_rfl) (by kernel_rfl) (by kernel_rfl) (by kernel_rfl) rfl
    (fun ds hd => by
      match ds, hd with
      | [d, e], _ => rfl) (fun vs hl hall => law_walk plain mixed (by decide) an_obl (fun o A hu => c5_ok hu A) (fun o hu => an_all hu) W vs hl hall) hval hW

theorem an_lifted (os : Os) (started : os.Started) (H : Type) (enc : TypeId × Value → H) :
    ReturnsInHanded {} Try.checked os 4 .any (Rows.fnPagesAnswersSpec.pre6 enc Try.prog Try.f4 Rows.fnPagesAnswersRow.domain false) (Rows.fnPagesAnswersSpec.post enc Try.prog Try.f4 false true false false) := by
  refine returnsInHanded_of_change (C := Try.checked) (s := Rows.fnPagesAnswersSpec) own started (by kernel_rfl) Try.func4
    (ChangeSpec.witness6 (enc := enc) (C := Try.checked) false ⟨#[], #[.agg #[.int .i64 0, .bool false, .string ⟨#[]⟩, .string ⟨#[]⟩, .int .i64 0], .slice none 0 0], []⟩ 8 (by kernel_rfl) (by kernel_rfl) (by kernel_rfl) (by kernel_rfl)) ?_
  intro W base args ds gs before hval hW _ _
  exact an_contract H enc W base args ds gs before hval hW

theorem anProved : Rows.FnPagesAnswersSaid :=
  OpenClaim.holds_of_wide 4 Try.f4 rfl rfl rfl rfl rfl rfl rfl ⟨rfl, rfl, rfl, rfl, rfl⟩ rfl rfl rfl rfl rfl (by kernel_rfl) Try.func4 (by kernel_rfl)
    (of_decide_eq_true (by kernel_rfl)) (by unfold Func.isWrapper; first | (rw [if_pos (by decide +kernel)]; kernel_rfl) | (rw [if_neg (by decide +kernel)]; exact ⟨rfl, rfl⟩))
    (fun os started H enc _ => an_lifted os started H enc)

end Go.Proofs.Ytgopjdknmjjheaa.sxPages
