/-
  THE LAWS FnBackoff*: the model of both backoffs.
-/
import Derived.Test.YtagpchabkplggaaSxMLoopH
namespace Go.Proofs.Ytagpchabkplggaa.sxBackoff
open Go.Sx Go.RowKit
set_option linter.unusedVariables false

def js (a b : Nat) : List Nat := (List.range (b - a)).map (· + a)
def opK : DKs := .cons (.int .i64) (.cons .str (.cons (.int .i64) .nil))
def anK : DKs := .cons .bool (.cons (.int .i64) .nil)
def enK : DKs := .cons (.int .i64) (.cons .bool (.cons (.int .i64) .nil))
def apK : DKs := .cons (.ap 131) .nil
def inK : DKs := .cons (.int .i64) .nil

/-! ### the entries that are collected -/
def gA : E := pk [.v 7200, .v 7201, .v 7202, .v 7203]
def gB : E := pk [.v 7200, .v 7201, .v 7202, .v 7203, .v 2020]
def gR : RgI := ⟨21, 3, 4, .str, 7209⟩
def gcY : LoopY where
  f := 33; key := 4; N := 43; r := 2020; base := 25000
  js := [3, 4] ++ js 22 43
  hd := fun _ => ⟨[(0, .ptr 1 (.c 0)), (2, .ptr 2 (.c 0)), (21, .ptr 4 (.c 0))],
    [(500131, .ar 131 enK (.v 7201)), (5, .cells 54 [.int .i64 (.v 7205)]), (4, .itr 3 .str (.v 2020)), (3, .dmp .str false apK (.uf 70 gB) (some 4)), (2, .cells 91 [.bool (.bl true), .int .i64 (.v 7202)]), (1, .cells 127 [.ifc 52 (.ptr 5 (.c 0)), .nilfn, .int .i64 (.v 7204), .int .i64 (.v 7203), .map 3])], 9, []⟩
  ent := fun _ => [(.uf 71 gA, true)]
  app := fun _ => true
  ok0 := fun m => Nat.beq m 0
  modeL := fun _ => .ret 0
  tgt := fun m => Nat.beq m 0
  mf := fun _ => []
  hx := fun _ => ⟨[(0, .ptr 1 (.c 0)), (2, .top), (21, .top)],
    [(500131, .ar 131 enK (.v 7201)), (5, .cells 54 [.int .i64 (.v 7205)]), (3, .dmp .str false apK (.uf 72 gA) none), (1, .cells 127 [.ifc 52 (.ptr 5 (.c 0)), .nilfn, .int .i64 (.v 7204), .int .i64 (.v 7203), .map 3])], 9, []⟩
  xmL := fun _ _ => .ret 0
  exN := fun _ => .exit 0
  exits := [(.bl true, 0)]
  fixed := [1, 3, 5]
  lt := .bl true
  X := XCtr.none
  fuel := 300; np := 60
  params := [7200, 7201, 7202, 7203, 7204, 7205]
  dfN := [(42, 1)]
  pinH := [(7200, 0, 0, [4])]

/-! ### impl.Backoff's operations -/
def bG : E := pk [.v 7300, .v 7301, .v 7302]
def bA : E := pk [.v 7300, .v 7301, .v 7302, .v 2021]
def bO : E := pk [.v 7300, .v 7301, .v 7302]
def r21 : E := .v 2021
def bkF : Facts := [(.o2 .le (.o1 .tlen (.v 7302)) (.il 400), true), (.uf 64 bG, true), (.o2 .le (.il 0) (.v 7300), true), (.o2 .le (.v 7300) (.il 9007199254740992), true), (.o2 .le (.il 0) (.v 7301), true), (.o2 .le (.v 7301) (.il 9007199254740992), true)]
def bkO : List SV := [.ifc 52 (.ptr 1 (.c 0)), .nilfn, .int .i64 (.v 7300), .int .i64 (.v 7301), .map 3]
def bkC : Ctr := ⟨[], [(33, 4, gcY.lpP)]⟩
def bkY : LoopY where
  f := 15; key := 5; N := 102; r := 2021; base := 26000
  js := [11, 12] ++ js 20 101
  hd := fun m => ⟨[(2, .dsl opK (.v 7302)), (7, .ptr 1 (.c 0)), (8, .ptr 2 (.c 0)), (9, match m with | 0 => .nilsl | _ => .sl 4 2 (.il 0) r21), (10, .int .i64 r21)],
    [(500131, .ar 131 enK (.uf 62 bA))] ++ (match m with | 0 => [] | _ => [(4, .row 44 2 r21 [.tc .bool (.uf 63 bO) 0, .tc (.int .i64) (.uf 63 bO) 1] [])]) ++
    [(3, .dmp .str false apK (.uf 61 bA) none), (2, .cells 127 bkO), (1, .cells 54 [.int .i64 (.uf 60 bA)])], 9,
    (match m with | 0 => [(.o2 .ieq r21 (.il 0), true)] | _ => [(.o2 .lt (.il 0) r21, true)]) ++ [(.o2 .le (.il 0) r21, true), (.o2 .le r21 (.o1 .tlen (.v 7302)), true)] ++ bkF⟩
  ent := fun _ => bkF
  app := fun _ => true
  ok0 := fun m => Nat.beq m 0
  modeL := fun sl => match nth sl 9 with | some .nilsl => .ret 0 | some (.sl ..) => .ret 1 | _ => .fail
  tgt := fun m => Nat.beq m 1
  mf := fun _ => []
  hx := fun _ => ⟨[(2, .top), (7, .top), (8, .top), (9, .dsl anK (.uf 63 bO)), (10, .top)], [(500131, .ar 131 enK (.uf 65 bO))], 9, []⟩
  xmL := fun _ _ => .ret 0
  exN := fun _ => .exit 0
  exits := [(.bl true, 0)]
  fixed := []
  lt := .o2 .lt r21 (.o1 .tlen (.v 7302))
  X := bkC.x
  fuel := 600; np := 80
  params := [7300, 7301, 7302]
  kds := [(44, anK)]

/-! ### the reference's entries that are collected -/
def sA : E := pk [.v 7400, .v 7401, .v 7402, .v 7403]
def sB : E := pk [.v 7400, .v 7401, .v 7402, .v 7403, .v 2022]
def sR : RgI := ⟨119, 3, 4, .str, 7409⟩
def spO : List SV := [.int .i64 (.v 7404), .int .i64 (.v 7403), .int .i64 (.v 7402), .map 3, .map 2]
def spY : LoopY where
  f := 19; key := 20; N := 148; r := 2022; base := 27000
  js := [8] ++ js 120 136
  hd := fun _ => ⟨[(0, .ptr 1 (.c 0)), (119, .ptr 4 (.c 0))], [(4, .itr 3 .str (.v 2022)), (3, .dmp .str false inK (.uf 73 sB) (some 4)), (2, .dmp .str false inK (.v 7401) none), (1, .cells 98 spO)], 9, []⟩
  ent := fun _ => [(.uf 75 sA, true)]
  app := fun _ => true
  ok0 := fun m => Nat.beq m 0
  modeL := fun _ => .ret 0
  tgt := fun m => Nat.beq m 0
  mf := fun _ => []
  hx := fun _ => ⟨[(0, .ptr 1 (.c 0)), (119, .top)], [(3, .dmp .str false inK (.uf 74 sA) none), (2, .dmp .str false inK (.v 7401) none), (1, .cells 98 spO)], 9, []⟩
  xmL := fun _ _ => .ret 0
  exN := fun _ => .exit 1
  exits := [(.bl true, 0)]
  fixed := [1, 2, 3]
  lt := .bl true
  X := XCtr.none
  fuel := 300; np := 60
  params := [7400, 7401, 7402, 7403, 7404]
  pinH := [(7400, 0, 0, [3])]

/-! ### impl.Backoff, run once -/
def bkF2 : Facts := [(.o2 .le (.o1 .tlen (.v 7312)) (.il 400), true), (.uf 64 (pk [.v 7310, .v 7311, .v 7312]), true), (.o2 .le (.il 0) (.v 7310), true), (.o2 .le (.v 7310) (.il 9007199254740992), true), (.o2 .le (.il 0) (.v 7311), true), (.o2 .le (.v 7311) (.il 9007199254740992), true)]
def bkFn : FunY where
  f := 15
  args := [.int .i64 (.v 7310), .int .i64 (.v 7311), .dsl opK (.v 7312)]
  params := [7310, 7311, 7312]
  ent := bkF2
  app := fun args => match args with | [.int _ (.il _), _, _] => false | _ => true
  kds := [(44, anK), (40, opK)]
  exits := [(.bl true, 0)]
  kind := fun _ => some 0
  out := fun _ => .dsl anK (.uf 63 (pk [.v 7310, .v 7311, .v 7312]))
  X := (⟨[], [(15, 5, bkY.lpP)]⟩ : Ctr).x
  fuel := 400
  np := 80
  ars := [(131, enK)]

/-! ### the guards -/
def fits22 : LoopY := guardT 16 4 18 2 opK 8 10 ([4] ++ js 11 18) 0 7000 2000 1 2 XCtr.none
def boGood : LoopY := guardT 17 4 74 6 opK 28 30 ([8] ++ js 31 74) 0 7001 2001 3 4 XCtr.none
def c0 : Ctr := ⟨[(15, bkFn.funP), (14, shutP true)], [(16, 4, fits22.lpP), (17, 4, boGood.lpP)]⟩

/-! ### FnBackoffAnswers' questions -/
def aA : E := pk [.v 7500, .v 7501, .v 7502, .v 2023]
def aG : E := pk [.v 7500, .v 7501, .v 7502, .v 7503]
def r23 : E := .v 2023
def cS : Ctr := ⟨[], [(19, 20, spY.lpP)]⟩
def anF : Facts := [(.uf 76 aG, true), (.o2 .ieq (.o1 .tlen (.v 7503)) (.o1 .tlen (.v 7502)), true), (.o2 .le (.o1 .tlen (.v 7502)) (.il 200), true), (.o2 .le (.il 0) (.v 7500), true), (.o2 .le (.v 7500) (.il 9007199254740992), true), (.o2 .le (.il 0) (.v 7501), true), (.o2 .le (.v 7501) (.il 9007199254740992), true)]
def anO : List SV := [.int .i64 (.v 7500), .int .i64 (.v 7501), .int .i64 (.uf 66 aA), .map 3, .map 2]
def anY : LoopY where
  f := 6; key := 10; N := 49; r := 2023; base := 28000
  js := [9, 10] ++ js 35 48
  hd := fun _ => ⟨[(6, .bool (.bl false)), (7, .dsl anK (.v 7503)), (8, .ptr 1 (.c 0)), (32, .dsl opK (.v 7502)), (33, .int .i64 (.o1 .tlen (.v 7502))), (34, .int .i64 r23)],
    [(3, .dmp .str false inK (.uf 67 aA) none), (2, .dmp .str false inK (.uf 68 aA) none), (1, .cells 98 anO)], 9,
    [(.o2 .le (.il 0) r23, true), (.o2 .le r23 (.o1 .tlen (.v 7502)), true)] ++ anF⟩
  ent := fun _ => anF
  app := fun _ => true
  ok0 := fun m => Nat.beq m 0
  modeL := fun _ => .ret 0
  tgt := fun m => Nat.beq m 0
  mf := fun _ => []
  hx := fun _ => ⟨[(6, .bool (.bl false)), (7, .top), (8, .top), (32, .top), (33, .top), (34, .top)], [], 9, []⟩
  xmL := fun ex _ => match ex with | .ret => .ret 1 | _ => .ret 0
  exN := fun n => match n with | 1 => .ret | _ => .exit 0
  exits := [(.bl false, 1), (.bl true, 0)]
  fixed := []
  lt := .o2 .lt r23 (.o1 .tlen (.v 7502))
  X := cS.x
  fuel := 600; np := 80
  params := [7500, 7501, 7502, 7503]
def cA : Ctr := ⟨[(15, bkFn.funP), (14, shutP true)], [(16, 4, fits22.lpP), (17, 4, boGood.lpP), (6, 10, anY.lpP)]⟩

/-! ### FnBackoffRuns: the operations that are played -/
def rA : E := pk [.v 7600, .v 7601, .v 7602, .v 7603]
def rB : E := pk [.v 7600, .v 7601, .v 7602, .v 7603, .v 2024]
def r24 : E := .v 2024
def rnF : Facts := [(.o2 .le (.o1 .tlen (.v 7600)) (.il 60), true), (.o2 .le (.il 0) (.v 7601), true), (.o2 .le (.v 7601) (.v 7602), true), (.o2 .le (.v 7602) (.il 1099511627776), true)]
def rnY : LoopY where
  f := 5; key := 10; N := 125; r := 2024; base := 29000
  js := [14, 15] ++ js 42 97
  hd := fun m => ⟨[(0, .int .i64 (.v 7601)), (1, .int .i64 (.v 7602)), (3, .bool (.v 7603)), (8, .bool (.bl false))] ++
      (match m with | 0 => [(9, .nilsl), (10, .nilsl), (11, .nilsl)] | _ => [(9, .sl 1 3 (.il 0) (.uf 80 rB)), (10, .sl 2 1 (.il 0) r24), (11, .sl 3 1 (.il 0) r24)]) ++
      [(12, .int .i64 (.uf 86 rB)), (13, .int .i64 (.uf 87 rB)), (39, .dsl inK (.v 7600)), (40, .int .i64 (.o1 .tlen (.v 7600))), (41, .int .i64 r24)],
    (match m with | 0 => [] | _ => [(3, .row 2 1 r24 [.tc (.int .i64) (.uf 83 rA) 0] []), (2, .row 3 1 r24 [.tc (.int .i64) (.uf 82 rA) 0] []), (1, .row 40 3 (.uf 80 rB) [.tc (.int .i64) (.uf 81 rA) 0, .tc .str (.uf 81 rA) 1, .tc (.int .i64) (.uf 81 rA) 2] [])]), 9,
    (match m with | 0 => [(.o2 .ieq r24 (.il 0), true)] | _ => [(.o2 .lt (.il 0) r24, true), (.o2 .le (.il 0) (.uf 80 rB), true), (.o2 .le (.uf 80 rB) (.il 360), true)]) ++ [(.o2 .le (.il 0) r24, true), (.o2 .le r24 (.o1 .tlen (.v 7600)), true)] ++ rnF⟩
  ent := fun _ => rnF
  app := fun _ => true
  ok0 := fun m => Nat.beq m 0
  modeL := fun sl => match nth sl 9 with | some .nilsl => .ret 0 | some (.sl ..) => .ret 1 | _ => .fail
  tgt := fun m => Nat.beq m 1
  mf := fun _ => []
  hx := fun n => match n with
    | 1 => ⟨[(0, .top), (1, .top), (3, .top), (8, .bool (.bl true)), (9, .top), (10, .top), (11, .top), (12, .top), (13, .top), (39, .top), (40, .top), (41, .top)], [], 9, []⟩
    | _ => ⟨[(0, .int .i64 (.v 7601)), (1, .int .i64 (.v 7602)), (3, .bool (.v 7603)), (8, .bool (.bl false)), (9, .dsl opK (.uf 81 rA)), (10, .dsl inK (.uf 82 rA)), (11, .dsl inK (.uf 83 rA)), (12, .top), (13, .top), (39, .top), (40, .top), (41, .top)], [], 9, []⟩
  xmL := fun ex _ => match ex with | .ret => .ret 1 | _ => .ret 0
  exN := fun n => match n with | 1 => .ret | _ => .exit 0
  exits := [(.uf 84 (pk [.v 7600]), 1), (.bl true, 0)]
  fixed := []
  lt := .o2 .lt r24 (.uf 85 (pk [.v 7600]))
  X := (⟨[(14, shutP true)], []⟩ : Ctr).x
  fuel := 600; np := 80
  params := [7600, 7601, 7602, 7603]
  kds := [(40, opK), (2, inK), (3, inK)]

def r25 : E := .v 2025
def ckA : E := pk [.v 7700, .v 7701, .v 7702]
def ckF : Facts := [(.uf 88 ckA, true), (.o2 .le (.o1 .tlen (.v 7700)) (.il 60), true), (.o2 .ieq (.o1 .tlen (.v 7702)) (.o1 .tlen (.v 7700)), true)]
def ckY : LoopY where
  f := 5; key := 28; N := 125; r := 2025; base := 30000
  js := [17, 18] ++ js 109 124
  hd := fun _ => ⟨[(8, .bool (.bl false)), (11, .dsl inK (.v 7702)), (16, .dsl anK (.v 7701)), (106, .dsl inK (.v 7700)), (107, .int .i64 (.o1 .tlen (.v 7700))), (108, .int .i64 r25)], [], 9,
    [(.o2 .le (.il 0) r25, true), (.o2 .le r25 (.o1 .tlen (.v 7700)), true)] ++ ckF⟩
  ent := fun _ => ckF
  app := fun _ => true
  ok0 := fun m => Nat.beq m 0
  modeL := fun _ => .ret 0
  tgt := fun m => Nat.beq m 0
  mf := fun _ => []
  hx := fun _ => ⟨[(8, .bool (.bl false)), (11, .top), (16, .top), (106, .top), (107, .top), (108, .top)], [], 9, []⟩
  xmL := fun ex _ => match ex with | .ret => .ret 1 | _ => .ret 0
  exN := fun n => match n with | 1 => .ret | _ => .exit 3
  exits := [(.bl false, 1), (.bl true, 0)]
  fixed := []
  lt := .o2 .lt r25 (.o1 .tlen (.v 7700))
  X := XCtr.none
  fuel := 300; np := 60
  params := [7700, 7701, 7702]
def cR : Ctr := ⟨[(15, bkFn.funP), (14, shutP true)], [(5, 10, rnY.lpP), (5, 28, ckY.lpP)]⟩
end Go.Proofs.Ytagpchabkplggaa.sxBackoff

namespace Go.Proofs.Ytagpchabkplggaa.sxBackoff
open Go.Sx Go.RowKit
set_option linter.unusedVariables false
set_option linter.unusedSimpArgs false

abbrev Row := List Dv
def hd (r : Row) : Dv := r.headD (.i 0)
def Keys (q : KQ) (l : List Row) : Prop := l.Pairwise fun a b => q.eq (hd a) (hd b) = false
theorem eq_comm' {q : KQ} {a b : Dv} : q.eq a b = q.eq b a := by
  cases q <;> simp only [KQ.eq] <;> exact Bool.beq_comm ..
theorem eq_trans' {q : KQ} {a b c : Dv} (h : q.eq a b = true) : q.eq a c = q.eq b c := by
  cases q <;> simp only [KQ.eq, beq_iff_eq] at h ⊢ <;> rw [h]
theorem mfind_cons {q : KQ} {k : Dv} {r : Row} {l : List Row} : mfind q k (r :: l) = bif q.eq (hd r) k then some 0 else (mfind q k l).map (· + 1) := rfl
theorem mfind_some {q : KQ} {k : Dv} : ∀ {l : List Row} {j : Nat}, mfind q k l = some j → ∃ r, l[j]? = some r ∧ q.eq (hd r) k = true
  | [], j, h => by cases h
  | r :: l, j, h => by
    rw [mfind_cons] at h
    cases hb : q.eq (hd r) k with
    | true => rw [hb] at h; simp only [cond_true, Option.some.injEq] at h; subst h; exact ⟨r, rfl, hb⟩
    | false =>
      rw [hb] at h
      simp only [cond_false, Option.map_eq_some_iff] at h
      obtain ⟨i, h1, rfl⟩ := h
      obtain ⟨x, h2, h3⟩ := mfind_some h1
      exact ⟨x, by simpa using h2, h3⟩
theorem mfind_none {q : KQ} {k : Dv} : ∀ {l : List Row}, mfind q k l = none → ∀ r ∈ l, q.eq (hd r) k = false
  | [], h, r, hr => by cases hr
  | x :: l, h, r, hr => by
    rw [mfind_cons] at h
    cases hb : q.eq (hd x) k with
    | true => rw [hb] at h; cases h
    | false =>
      rw [hb] at h
      simp only [cond_false, Option.map_eq_none_iff] at h
      rcases List.mem_cons.1 hr with rfl | hr
      · exact hb
      · exact mfind_none h r hr
theorem mfind_map {q : KQ} {k : Dv} {f : Row → Row} (hf : ∀ r, hd (f r) = hd r) : ∀ {l : List Row}, mfind q k (l.map f) = mfind q k l
  | [] => rfl
  | r :: l => by rw [List.map_cons, mfind_cons, mfind_cons, hf, mfind_map hf]
theorem mput_map {q : KQ} {f : Row → Row} (hf : ∀ r, hd (f r) = hd r) {l : List Row} {r : Row} : mput q (l.map f) (f r) = (mput q l r).map f := by
  have e : mfind q ((f r).headD (.i 0)) (l.map f) = mfind q (r.headD (.i 0)) l := by
    rw [mfind_map hf]
    show mfind q (hd (f r)) l = _
    rw [hf]; rfl
  unfold mput
  rw [e]
  cases mfind q (r.headD (.i 0)) l with
  | none => simp
  | some i => simp [List.map_set]
theorem mdel_map {q : KQ} {f : Row → Row} (hf : ∀ r, hd (f r) = hd r) {l : List Row} {k : Dv} : mdel q (l.map f) k = (mdel q l k).map f := by
  unfold mdel
  rw [mfind_map hf]
  cases mfind q k l with
  | none => rfl
  | some i =>
    show (l.map f).eraseIdx i = (l.eraseIdx i).map f
    clear hf
    induction l generalizing i with
    | nil => rfl
    | cons x l ih => cases i with
      | zero => rfl
      | succ i => simp only [List.map_cons, List.eraseIdx_cons_succ, ih]
/-- Without a key's row. -/
theorem mdel_filter {q : KQ} {k : Dv} : ∀ {l : List Row}, Keys q l → mdel q l k = l.filter fun r => !(q.eq (hd r) k)
  | [], _ => rfl
  | r :: l, h => by
    obtain ⟨h1, h2⟩ := List.pairwise_cons.1 h
    unfold mdel
    rw [mfind_cons]
    cases hb : q.eq (hd r) k with
    | true =>
      simp only [cond_true, List.eraseIdx_cons_zero, List.filter_cons, hb, Bool.not_true, Bool.false_eq_true, if_false]
      refine (List.filter_eq_self.2 fun x hx => ?_).symm
      have h4 := h1 x hx
      rw [eq_trans' hb, eq_comm'] at h4
      simp [h4]
    | false =>
      have ih := mdel_filter (k := k) h2
      unfold mdel at ih
      simp only [cond_false, List.filter_cons, hb, Bool.not_false, if_true]
      rw [← ih]
      cases mfind q k l <;> simp
theorem keys_filter {q : KQ} {l : List Row} {p : Row → Bool} (h : Keys q l) : Keys q (l.filter p) := List.Pairwise.sublist List.filter_sublist h
theorem keys_mem {q : KQ} : ∀ {l : List Row}, Keys q l → ∀ {a b : Row}, a ∈ l → b ∈ l → q.eq (hd a) (hd b) = true → a = b := by
  intro l hp
  induction hp with
  | nil => intro a b h; cases h
  | @cons x l h _ ih =>
    intro a b ha hb he
    rcases List.mem_cons.1 ha with ea | ha
    · rcases List.mem_cons.1 hb with eb | hb
      · rw [ea, eb]
      · have := h b hb; rw [ea] at he; rw [he] at this; cases this
    · rcases List.mem_cons.1 hb with eb | hb
      · have := h a ha; rw [eb, eq_comm'] at he; rw [he] at this; cases this
      · exact ih ha hb he

/-! ### a collection under way -/
/-- Is a key among those that were handed out? -/
def seenK (q : KQ) (vis : List Dv) (r : Row) : Bool := vis.any fun k => q.eq (hd r) k
def cur (q : KQ) (M : List Row) (exp : Row → Bool) (vis : List Dv) : List Row := M.filter fun r => !(seenK q vis r && exp r)
theorem cur_0 {q : KQ} {M : List Row} {exp : Row → Bool} : cur q M exp [] = M := by
  unfold cur
  exact List.filter_eq_self.2 fun r _ => by simp [seenK]
theorem cur_step {q : KQ} {M : List Row} {exp : Row → Bool} {vis : List Dv} {k : Dv} (hM : Keys q M) {r : Row} (hr : r ∈ cur q M exp vis) (hk : q.eq (hd r) k = true) :
    cur q M exp (vis ++ [k]) = if exp r = true then mdel q (cur q M exp vis) k else cur q M exp vis := by
  have hrM : r ∈ M := (List.mem_filter.1 hr).1
  have e : cur q M exp (vis ++ [k]) = (cur q M exp vis).filter fun x => !(q.eq (hd x) k && exp x) := by
    unfold cur
    rw [List.filter_filter]
    refine List.filter_congr fun x _ => ?_
    simp only [seenK, List.any_append, List.any_cons, List.any_nil, Bool.or_false]
    cases (vis.any fun k => q.eq (hd x) k) <;> cases q.eq (hd x) k <;> cases exp x <;> rfl
  have same : ∀ x ∈ cur q M exp vis, q.eq (hd x) k = true → x = r := fun x hx h =>
    keys_mem hM (List.mem_filter.1 hx).1 hrM (by rw [eq_trans' h, eq_comm']; exact hk)
  rw [e]
  cases hx : exp r with
  | true =>
    rw [if_pos rfl, mdel_filter (show Keys q (cur q M exp vis) from keys_filter hM)]
    refine List.filter_congr fun x hxm => ?_
    cases hq : q.eq (hd x) k with
    | false => rfl
    | true => rw [same x hxm hq, hx]; rfl
  | false =>
    rw [if_neg (by simp)]
    refine List.filter_eq_self.2 fun x hxm => ?_
    cases hq : q.eq (hd x) k with
    | false => rfl
    | true => rw [same x hxm hq, hx]; rfl
theorem cur_end {q : KQ} {M : List Row} {exp : Row → Bool} {vis : List Dv} (h : ∀ r ∈ cur q M exp vis, seenK q vis r = true) : cur q M exp vis = M.filter fun r => !(exp r) := by
  unfold cur at h ⊢
  refine List.filter_congr fun r hr => ?_
  cases hs : seenK q vis r with
  | true => rfl
  | false =>
    have : r ∈ M.filter fun r => !(seenK q vis r && exp r) := List.mem_filter.2 ⟨hr, by rw [hs]; rfl⟩
    have := h r this
    rw [hs] at this; cases this
end Go.Proofs.Ytagpchabkplggaa.sxBackoff

namespace Go.Proofs.Ytagpchabkplggaa.sxBackoff
open Go.Sx Go.RowKit
set_option linter.unusedVariables false
set_option linter.unusedSimpArgs false

/-! ### a map's row -/
def mget (q : KQ) (l : List Row) (k : Dv) : Option Row := (mfind q k l).bind fun j => l[j]?
theorem mget_nil {q : KQ} {k : Dv} : mget q [] k = none := rfl
theorem mget_cons {q : KQ} {k : Dv} {r : Row} {l : List Row} : mget q (r :: l) k = bif q.eq (hd r) k then some r else mget q l k := by
  unfold mget
  rw [mfind_cons]
  cases q.eq (hd r) k with
  | true => rfl
  | false => cases mfind q k l <;> simp
theorem mput_nil {q : KQ} {x : Row} : mput q [] x = [x] := rfl
theorem mput_cons {q : KQ} {x r : Row} {l : List Row} : mput q (r :: l) x = bif q.eq (hd r) (hd x) then x :: l else r :: mput q l x := by
  unfold mput
  show (match mfind q (hd x) (r :: l) with | some i => (r :: l).set i x | none => r :: l ++ [x]) = bif q.eq (hd r) (hd x) then x :: l else r :: (match mfind q (hd x) l with | some i => l.set i x | none => l ++ [x])
  rw [mfind_cons]
  cases q.eq (hd r) (hd x) with
  | true => rfl
  | false => cases mfind q (hd x) l <;> simp
theorem mget_put_same {q : KQ} {x : Row} {k : Dv} (h : q.eq (hd x) k = true) : ∀ {l : List Row}, mget q (mput q l x) k = some x
  | [] => by rw [mput_nil, mget_cons, h]; rfl
  | r :: l => by
    rw [mput_cons]
    cases hb : q.eq (hd r) (hd x) with
    | true => rw [cond_true, mget_cons, h]; rfl
    | false =>
      rw [cond_false, mget_cons]
      have : q.eq (hd r) k = false := by
        cases hk : q.eq (hd r) k with
        | false => rfl
        | true =>
          rw [eq_comm', eq_trans' (c := hd r) h, eq_comm'] at hb
          rw [hk] at hb; cases hb
      rw [this]; exact mget_put_same h
theorem mget_put_ne {q : KQ} {x : Row} {k : Dv} (h : q.eq (hd x) k = false) : ∀ {l : List Row}, mget q (mput q l x) k = mget q l k
  | [] => by rw [mput_nil, mget_cons, h]; rfl
  | r :: l => by
    rw [mput_cons]
    cases hb : q.eq (hd r) (hd x) with
    | true =>
      rw [cond_true, mget_cons, mget_cons, h]
      have : q.eq (hd r) k = false := by rw [eq_trans' hb]; exact h
      rw [this]; rfl
    | false => rw [cond_false, mget_cons, mget_cons, mget_put_ne h]
theorem mem_put {q : KQ} {x y : Row} : ∀ {l : List Row}, Keys q l → y ∈ mput q l x → y = x ∨ (y ∈ l ∧ q.eq (hd y) (hd x) = false)
  | [], _, h => by rw [mput_nil] at h; exact .inl (List.mem_singleton.1 h)
  | r :: l, hk, h => by
    obtain ⟨k1, k2⟩ := List.pairwise_cons.1 hk
    rw [mput_cons] at h
    cases hb : q.eq (hd r) (hd x) with
    | true =>
      rw [hb, cond_true] at h
      rcases List.mem_cons.1 h with e | h
      · exact .inl e
      · refine .inr ⟨List.mem_cons_of_mem _ h, ?_⟩
        have := k1 y h
        rw [eq_trans' hb, eq_comm'] at this; exact this
    | false =>
      rw [hb, cond_false] at h
      rcases List.mem_cons.1 h with e | h
      · exact .inr ⟨by rw [e]; exact List.mem_cons_self .., by rw [e]; exact hb⟩
      · rcases mem_put k2 h with e | ⟨h1, h2⟩
        · exact .inl e
        · exact .inr ⟨List.mem_cons_of_mem _ h1, h2⟩
theorem keys_put {q : KQ} {x : Row} : ∀ {l : List Row}, Keys q l → Keys q (mput q l x)
  | [], _ => List.pairwise_singleton _ _
  | r :: l, hk => by
    obtain ⟨k1, k2⟩ := List.pairwise_cons.1 hk
    rw [mput_cons]
    cases hb : q.eq (hd r) (hd x) with
    | true =>
      rw [cond_true]
      refine List.pairwise_cons.2 ⟨fun y hy => ?_, k2⟩
      have := k1 y hy
      rw [eq_trans' hb] at this; exact this
    | false =>
      rw [cond_false]
      refine List.pairwise_cons.2 ⟨fun y hy => ?_, keys_put k2⟩
      rcases mem_put k2 hy with e | ⟨h1, _⟩
      · rw [e]; exact hb
      · exact k1 y h1
/-- A property of two rows that the new one has with all others. -/
theorem pair_put {q : KQ} {x : Row} {R : Row → Row → Prop} (hs : ∀ a b, R a b → R b a) : ∀ {l : List Row}, Keys q l → l.Pairwise R → (∀ y ∈ l, q.eq (hd y) (hd x) = false → R x y) → (mput q l x).Pairwise R
  | [], _, _, _ => List.pairwise_singleton _ _
  | r :: l, hk, hp, h => by
    obtain ⟨k1, k2⟩ := List.pairwise_cons.1 hk
    obtain ⟨p1, p2⟩ := List.pairwise_cons.1 hp
    rw [mput_cons]
    cases hb : q.eq (hd r) (hd x) with
    | true =>
      rw [cond_true]
      refine List.pairwise_cons.2 ⟨fun y hy => h y (List.mem_cons_of_mem _ hy) ?_, p2⟩
      have := k1 y hy
      rw [eq_trans' hb, eq_comm'] at this; exact this
    | false =>
      rw [cond_false]
      refine List.pairwise_cons.2 ⟨fun y hy => ?_, pair_put hs k2 p2 fun y hy => h y (List.mem_cons_of_mem _ hy)⟩
      rcases mem_put k2 hy with e | ⟨h1, _⟩
      · rw [e]; exact hs _ _ (h r (List.mem_cons_self ..) hb)
      · exact p1 y h1
theorem mget_mem {q : KQ} {k : Dv} {r : Row} : ∀ {l : List Row}, mget q l k = some r → r ∈ l ∧ q.eq (hd r) k = true
  | [], h => by cases h
  | x :: l, h => by
    rw [mget_cons] at h
    cases hb : q.eq (hd x) k with
    | true => rw [hb] at h; simp only [cond_true, Option.some.injEq] at h; subst h; exact ⟨List.mem_cons_self .., hb⟩
    | false => rw [hb] at h; obtain ⟨h1, h2⟩ := mget_mem h; exact ⟨List.mem_cons_of_mem _ h1, h2⟩
theorem mget_none {q : KQ} {k : Dv} {l : List Row} : mget q l k = none ↔ mfind q k l = none := by
  unfold mget
  cases h : mfind q k l with
  | none => exact ⟨fun _ => rfl, fun _ => rfl⟩
  | some j =>
    obtain ⟨r, h1, _⟩ := mfind_some h
    simp [h1]
theorem mget_some {q : KQ} {k : Dv} {l : List Row} {r : Row} : mget q l k = some r ↔ ∃ j, mfind q k l = some j ∧ l[j]? = some r := by
  unfold mget
  rw [Option.bind_eq_some_iff]
theorem sub_del {q : KQ} {k : Dv} {l : List Row} : (mdel q l k).Sublist l := by
  unfold mdel
  cases mfind q k l with
  | none => exact List.Sublist.refl _
  | some i => exact List.eraseIdx_sublist _ _

/-! ### the state -/
structure BS where
  T : Int
  A : List Row
  E : List Row
  L : List Row
def rI (r : Row) (j : Nat) : Int := (cc r j).I
def pick2 (j : Nat) (r : Row) : Row := [cc r 0, cc r j]
theorem hd_cc (r : Row) : hd r = cc r 0 := by cases r <;> rfl
theorem hd_pick2 {j : Nat} (r : Row) : hd (pick2 j r) = hd r := by rw [hd_cc r]; rfl
def wNew (m w : Int) : Int := if m < w * 2 then m else w * 2
def expd (m t l : Int) : Bool := decide (m * 2 < t - l)
def freshS (i : Dv) (s : BS) (id : Dv) : BS := ⟨s.T, mput .s s.A [id, .i s.E.length, i, .i s.T, id], s.E ++ [[i, .b true, .i s.T]], mput .s s.L [id, .i s.T]⟩
def liveS (m : Int) (s : BS) (id : Dv) (r : Row) : BS := ⟨s.T, mput .s s.A [cc r 0, cc r 1, .i (wNew m (rI r 2)), .i s.T, id], s.E.set (rI r 1).toNat [.i (wNew m (rI r 2)), .b true, .i s.T], mput .s s.L [id, .i s.T]⟩
def st1 (i : Dv) (m : Int) (s : BS) (op : Row) : BS :=
  if rI op 0 = 1 then (match mget .s s.A (cc op 1) with | some r => if expd m (rI op 2) (rI r 3) = true then freshS i s (cc op 1) else liveS m s (cc op 1) r | none => freshS i s (cc op 1))
  else if rI op 0 = 2 ∨ rI op 0 = 7 then { s with A := mdel .s s.A (cc op 1) }
  else if rI op 0 = 6 then { s with A := s.A.filter fun r => !(expd m s.T (rI r 3)) }
  else if rI op 0 = 8 then { s with T := s.T + rI op 2 }
  else s
def an1 (m : Int) (s : BS) (op : Row) : Row :=
  match mget .s s.A (cc op 1) with
  | some r =>
    if rI op 0 = 3 then [.b false, .i (rI r 2)]
    else if rI op 0 = 4 then [.b (!(expd m (rI op 2) (rI r 3)) && decide (s.T - rI op 2 < rI r 2)), .i 0]
    else if rI op 0 = 5 then [.b (!(expd m (rI op 2) (rI r 3)) && decide (rI op 2 - rI r 3 < rI r 2)), .i 0]
    else [.b false, .i 0]
  | none => [.b false, .i 0]

structure RowOk (s : BS) (r : Row) : Prop where
  form : ∃ id ix w l id', r = [id, .i ix, w, .i l, id']
  key : KQ.eq .s (cc r 4) (hd r) = true
  ix : 0 ≤ rI r 1
  ent : s.E[(rI r 1).toNat]? = some [cc r 2, .b true, .i (rI r 3)]
  w : 0 ≤ rI r 2 ∧ rI r 2 ≤ 9007199254740992
  l : 0 ≤ rI r 3 ∧ rI r 3 ≤ s.T
  last : ∃ x, mget .s s.L (hd r) = some x ∧ cc x 1 = .i (rI r 3)
structure Inv (n : Nat) (s : BS) : Prop where
  T : 0 ≤ s.T ∧ s.T ≤ n * 1125899906842624
  A : ∀ r ∈ s.A, RowOk s r
  keys : Keys .s s.A
  ixs : s.A.Pairwise fun a b => rI a 1 ≠ rI b 1
  L : ∀ r ∈ s.L, 0 ≤ rI r 1 ∧ rI r 1 ≤ s.T
  LK : Keys .s s.L
/-- An operation as laws take them. -/
structure OpOk (op : Row) : Prop where
  t : -9007199254740992 ≤ rI op 2 ∧ rI op 2 ≤ 9007199254740992
  c : rI op 0 = 8 → 0 ≤ rI op 2 ∧ rI op 2 ≤ 1125899906842624
theorem s_eq_self {k : Dv} : KQ.eq .s k k = true := KQ_self k
where KQ_self (k : Dv) : KQ.eq .s k k = true := by simp [KQ.eq]
theorem RowOk.T {s : BS} {r : Row} (h : RowOk s r) {t : Int} (ht : s.T ≤ t) : RowOk { s with T := t } r := ⟨h.form, h.key, h.ix, h.ent, h.w, ⟨h.l.1, Int.le_trans h.l.2 ht⟩, h.last⟩
theorem Inv.st {n : Nat} {s : BS} (h : Inv n s) {i : Dv} {m : Int} (hi : 0 ≤ i.I ∧ i.I ≤ 9007199254740992) (hm : 0 ≤ m ∧ m ≤ 9007199254740992) {op : Row} (ho : OpOk op) : Inv (n + 1) (st1 i m s op) := by
  have hT1 : s.T ≤ ((n + 1 : Nat) : Int) * 1125899906842624 := by have := h.T.2; omega
  have fresh : ∀ id, Inv (n + 1) (freshS i s id) := fun id => by
    refine ⟨⟨h.T.1, hT1⟩, fun r hr => ?_, keys_put h.keys, pair_put (fun a b h => Ne.symm h) h.keys h.ixs (fun y hy hne => ?_), fun r hr => ?_, keys_put h.LK⟩
    · rcases mem_put h.keys hr with rfl | ⟨hr, hne⟩
      · refine ⟨⟨_, _, _, _, _, rfl⟩, s_eq_self, Int.natCast_nonneg _, ?_, hi, ⟨h.T.1, Int.le_refl _⟩, ⟨[id, .i s.T], mget_put_same s_eq_self, rfl⟩⟩
        show (s.E ++ [_])[((s.E.length : Nat) : Int).toNat]? = _
        rw [Int.toNat_natCast, List.getElem?_append_right (Nat.le_refl _), Nat.sub_self]
        rfl
      · obtain ⟨a, b0, b, c, d, e, x, f, g⟩ := h.A r hr
        refine ⟨a, b0, b, ?_, d, e, x, ?_, g⟩
        · show (s.E ++ [_])[(rI r 1).toNat]? = _
          rw [List.getElem?_append_left (List.getElem?_eq_some_iff.1 c).1]; exact c
        · show mget .s (mput .s s.L [id, .i s.T]) (hd r) = _
          rw [mget_put_ne (by rw [eq_comm']; exact hne)]; exact f
    · show ((s.E.length : Nat) : Int) ≠ rI y 1
      have := (List.getElem?_eq_some_iff.1 (h.A y hy).ent).1
      have := (h.A y hy).ix
      omega
    · rcases mem_put h.LK hr with rfl | ⟨hr, _⟩
      · exact ⟨h.T.1, Int.le_refl _⟩
      · exact h.L r hr
  have live : ∀ id r0, mget .s s.A id = some r0 → Inv (n + 1) (liveS m s id r0) := fun id r0 hr0 => by
    obtain ⟨hr0m, hr0k⟩ := mget_mem hr0
    have R0 := h.A r0 hr0m
    obtain ⟨jd, jx, jw, jl, jd', hform⟩ := R0.form
    have hc1 : cc r0 1 = .i (rI r0 1) := by rw [hform]; rfl
    have hhd : hd r0 = cc r0 0 := hd_cc r0
    have hne0 : ∀ y ∈ s.A, KQ.eq .s (hd y) (hd r0) = false → rI y 1 ≠ rI r0 1 := fun y hy hne he => by
      have : ∀ {l : List Row}, (l.Pairwise fun a b => rI a 1 ≠ rI b 1) → ∀ {a b : Row}, a ∈ l → b ∈ l → rI a 1 = rI b 1 → a = b := fun hp => pw_eq (f := fun r => rI r 1) hp
      have := this h.ixs hy hr0m he
      rw [this, s_eq_self] at hne; cases hne
    refine ⟨⟨h.T.1, hT1⟩, fun r hr => ?_, keys_put h.keys, pair_put (fun a b h => Ne.symm h) h.keys h.ixs (fun y hy hne => ?_), fun r hr => ?_, keys_put h.LK⟩
    · rcases mem_put h.keys hr with rfl | ⟨hr, hne⟩
      · have e1 : rI [cc r0 0, cc r0 1, .i (wNew m (rI r0 2)), .i s.T, id] 1 = rI r0 1 := rfl
        refine ⟨⟨cc r0 0, rI r0 1, _, _, id, by rw [hc1]⟩, ?_, R0.ix, ?_, ?_, ⟨h.T.1, Int.le_refl _⟩, ⟨[id, .i s.T], mget_put_same ?_, rfl⟩⟩
        · show KQ.eq .s id (cc r0 0) = true
          rw [eq_comm', ← hhd]; exact hr0k
        rotate_right
        · show KQ.eq .s id (cc r0 0) = true
          rw [eq_comm', ← hhd]; exact hr0k
        · rw [e1]
          show (s.E.set (rI r0 1).toNat _)[(rI r0 1).toNat]? = _
          rw [List.getElem?_set_self (List.getElem?_eq_some_iff.1 R0.ent).1]; rfl
        · show 0 ≤ wNew m (rI r0 2) ∧ wNew m (rI r0 2) ≤ _
          have := R0.w
          unfold wNew
          split <;> omega
      · obtain ⟨a, b0, b, c, d, e, x, f, g⟩ := h.A r hr
        have hne : KQ.eq .s (hd r) (hd r0) = false := by rw [hhd]; exact hne
        refine ⟨a, b0, b, ?_, d, e, x, ?_, g⟩
        · show (s.E.set (rI r0 1).toNat _)[(rI r 1).toNat]? = _
          have := hne0 r hr hne
          have := R0.ix
          rw [List.getElem?_set_ne (by omega)]; exact c
        · show mget .s (mput .s s.L [id, .i s.T]) (hd r) = _
          have hid : KQ.eq .s (hd r) id = false := by rw [eq_comm', ← eq_trans' hr0k, eq_comm']; exact hne
          rw [mget_put_ne (by rw [eq_comm']; exact hid)]; exact f
    · exact (hne0 y hy (by rw [hhd]; exact hne)).symm
    · rcases mem_put h.LK hr with rfl | ⟨hr, _⟩
      · exact ⟨h.T.1, Int.le_refl _⟩
      · exact h.L r hr
  have less : ∀ A', A'.Sublist s.A → Inv (n + 1) { s with A := A' } := fun A' hs =>
    ⟨⟨h.T.1, hT1⟩, fun r hr => by obtain ⟨a, b0, b, c, d, e, f⟩ := h.A r (hs.subset hr); exact ⟨a, b0, b, c, d, e, f⟩, h.keys.sublist hs, h.ixs.sublist hs, h.L, h.LK⟩
  unfold st1
  split
  · split
    · rename_i r hr
      split
      · exact fresh _
      · exact live _ r hr
    · exact fresh _
  · split
    · exact less _ sub_del
    · split
      · exact less _ List.filter_sublist
      · split
        · rename_i h8
          have := ho.c h8
          have h0 := h.T
          have ht : s.T ≤ s.T + rI op 2 := by omega
          exact ⟨⟨by show 0 ≤ s.T + rI op 2; omega, by show s.T + rI op 2 ≤ _; omega⟩, fun r hr => (h.A r hr).T ht, h.keys, h.ixs, fun r hr => ⟨(h.L r hr).1, Int.le_trans (h.L r hr).2 ht⟩, h.LK⟩
        · exact less _ (List.Sublist.refl _)
end Go.Proofs.Ytagpchabkplggaa.sxBackoff
