/-
  THE LAW FnElects: its loop over an ID's letters; its paths.
-/
import Derived.Test.YtagpchabkplggaaSxRo
import Derived.Test.YtagpchabkplggaaSxFlo
import Derived.Test.YtagpchabkplggaaRows
namespace Go.Proofs.Ytagpchabkplggaa.sxElects
open Go.Sx Go.RowKit
set_option linter.unusedVariables false
set_option linter.unusedSimpArgs false
set_option maxRecDepth 100000

theorem plain : Plain Try.prog := plain_of (by kernel_rfl)
theorem mixed : Try.prog.follows .mixedOrders = true := by kernel_rfl

/-! ### the loop -/
def chg : List Nat := [5, 57, 58, 59, 60, 61, 62, 63, 64, 65, 66, 67, 68, 69, 70, 71]
def chg2 : List Nat := 56 :: chg
def isLen (x : Option SV) : Bool :=
  match x with
  | some (.int .i64 (.o1 .size (.v 0))) => true
  | _ => false
def isZero (x : Option SV) : Bool :=
  match x with
  | some (.int .i64 (.il 0)) => true
  | _ => false
def lpP (n : Nat) (fr : Fr) (nx : Nat) : Prog (SExit × Fr × Nat) := do
  let o ← getN n
  match o with
  | .cells 23 [.str (.v 0), a, b, c, d, e] => do
    let t ← decE (.v 1000)
    match t with
    | true => return (.exit 2, ⟨tops chg2 fr.sl, []⟩, nx)
    | false => return (.ret, ⟨tops chg2 (fr.sl.set 2 (.bool (.bl false))), []⟩, nx)
  | _ => .fail "leConfigs"
def lpHook (f k : Nat) (fr : Fr) (nx : Nat) : Option (Prog (SExit × Fr × Nat)) :=
  match nth fr.sl 4 with
  | some (.ptr n (.c 0)) => cond (Nat.beq f 8 && Nat.beq k 7 && isLen (nth fr.sl 55) && isZero (nth fr.sl 56) && fr.df.isEmpty && Nat.beq fr.sl.length 90) (some (lpP n fr nx)) none
  | _ => none
def ctr : XCtr := ⟨fun _ _ _ => none, lpHook⟩

def byteAt (s : ByteArray) (i : Nat) : Int := ((s.data[i]?.getD 0).toNat : Int)
def goodTo (s : ByteArray) (i : Nat) : Prop := ∀ k, k < i → 32 ≤ byteAt s k ∧ byteAt s k ≤ 126

def ov : List (Nat × SV) := [(4, .ptr 0 (.c 0)), (55, .int .i64 (.o1 .size (.v 0))), (56, .int .i64 (.v 1))]
def hC (g : Nat → Value) : CHeap := [(0, .cells 23 [.str (.v 0), .cst (g 1), .cst (g 2), .cst (g 3), .cst (g 4), .cst (g 5)])]
def fsC : Facts := [(.o2 .le (.il 0) (.v 1), true)]
def tp (l : List Nat) : List (Nat × SV) := l.map fun j => (j, .top)
noncomputable def body : Code := theLoop Try.prog 8 7

def tLt : E := .o2 .lt (.v 1) (.o1 .size (.v 0))
def tLo : E := .o2 .lt (.o2 .byte (.v 0) (.v 1)) (.il 32)
def tHi : E := .o2 .lt (.il 126) (.o2 .byte (.v 0) (.v 1))
def nxt : E := .o2 .add (.v 1) (.il 1)

def leavesC (u g : Nat → Value) : List Leaf :=
  [⟨(tLo, true) :: (tLt, true) :: fsC, .ret, ⟨mkSl ((2, .bool (.bl false)) :: tp chg ++ ov) u 0 90, []⟩, sundef, hC g, 17, []⟩,
   ⟨(tHi, true) :: (tLo, false) :: (tLt, true) :: fsC, .ret, ⟨mkSl ((2, .bool (.bl false)) :: tp chg ++ ov) u 0 90, []⟩, sundef, hC g, 17, []⟩,
   ⟨(tHi, false) :: (tLo, false) :: (tLt, true) :: fsC, .normal, ⟨mkSl ((56, .int .i64 nxt) :: tp chg ++ ov) u 0 90, []⟩, sundef, hC g, 18, [.o2 .le nxt (.il 9223372036854775807), .o2 .le (.il (-9223372036854775808)) nxt]⟩,
   ⟨(tLt, false) :: fsC, .exit 2, ⟨mkSl (tp chg ++ ov) u 0 90, []⟩, sundef, hC g, 2, []⟩]

theorem body_paths (u g : Nat → Value) : exploreF Try.prog XCtr.none 100 (.code 8 body ⟨mkSl ov u 0 90, []⟩) (hC g) 1 20 fsC chg = .ok (leavesC u g) := by kernel_rfl


theorem byte_den {env : Env} {s : ByteArray} {i : Nat} (h0 : env.v 0 = .s s) (h1 : env.v 1 = .i i) : ((E.o2 .byte (.v 0) (.v 1)).den env).I = byteAt s i := by
  simp only [E.den, O2.den, h0, h1]
  show (((s.data[(i : Int).toNat]?.getD 0).toNat : Nat) : Int) = byteAt s i
  rw [Int.toNat_natCast]; rfl

set_option maxHeartbeats 1000000 in
theorem loop_wp {env : Env} {w0 : Anchor} {s : ByteArray} (hs0 : env.v 0 = .s s) (hsz : s.size ≤ maxLen) {b : Bool} (hb : b = true ↔ goodTo s s.size)
    {fr : Fr} {h : Heap} {nx n : Nat} {ρ : PMap} {a : Act} {w : World} (hs : Sat env w0 ρ fr h nx a w) (h4 : fr.sl[4]? = some (.ptr n (.c 0))) (h55 : fr.sl[55]? = some (.int .i64 (.o1 .size (.v 0))))
    (h56 : fr.sl[56]? = some (.int .i64 (.il 0))) (hdf : fr.df = []) (hlen : fr.sl.length = 90) {x1 x2 x3 x4 x5 : SV} (hobj : hget h n = some (.cells 23 [.str (.v 0), x1, x2, x3, x4, x5]))
    {Q : Exit → Act → World → Prop}
    (hq1 : b = true → ∀ (a' : Act) w', Sat env w0 ρ ⟨tops chg2 fr.sl, []⟩ h nx a' w' → Q (.exit 2) a' w')
    (hq2 : b = false → ∀ (a' : Act) w', Sat env w0 ρ ⟨tops chg2 (fr.sl.set 2 (.bool (.bl false))), []⟩ h nx a' w' → Q .ret a' w') :
    (Code.loop body).wp Try.prog Q a w := by
  obtain ⟨p, vs, hp, hpK, hpb, hpn, hvs, hblk⟩ := hs.hs.objs n _ hobj
  simp only [SV.Rels] at hvs
  obtain ⟨v0, _, rfl, hv0, v1, _, rfl, _, v2, _, rfl, _, v3, _, rfl, _, v4, _, rfl, _, v5, _, rfl, _, rfl⟩ := hvs
  have e0 : v0 = .string s := by
    have : v0 = .string ((E.v 0).den env).S := hv0
    rw [this]; simp only [E.den, hs0]; rfl
  subst e0
  obtain ⟨t4, ht4, hr4⟩ := hs.sl.get h4
  obtain ⟨t55, ht55, hr55⟩ := hs.sl.get h55
  obtain ⟨t56, ht56, hr56⟩ := hs.sl.get h56
  have e4 : t4 = .pointer (some ⟨p.block, 0, none⟩) := by
    obtain ⟨q, hq, rfl⟩ := hr4
    rw [hp] at hq; injection hq with hq; subst hq
    rw [hpb]; rfl
  have e55 : t55 = .int .i64 s.size := by
    have : t55 = .int .i64 ((E.o1 .size (.v 0)).den env).I := hr55
    rw [this]; simp only [E.den, O1.den, hs0]; rfl
  have e56 : t56 = .int .i64 (0 : Nat) := hr56
  subst e4; subst e55; subst e56
  have hdef : a.defers = [] := by have := hs.df; rw [hdf] at this; exact this.nil_eq
  have hal : a.tmps.toList.length = 90 := by rw [hs.sl.length, hlen]
  let g : Nat → Value := fun j => ([Value.string s, v1, v2, v3, v4, v5][j]?).getD undef
  let I : Nat → Act → World → Prop := fun r a' w' => ∃ i : Nat, i + r = s.size ∧ goodTo s i ∧ Kept (anchor w) w' ∧ a'.defers = [] ∧ a'.tmps.toList.length = 90 ∧
    (∀ j, j ∉ chg2 → a'.tmps.toList[j]? = a.tmps.toList[j]?) ∧ a'.tmps.toList[56]? = some (.int .i64 i)
  refine loop_inv I ?_ s.size a w ⟨0, by omega, fun k hk => by omega, Kept.refl _, hdef, hal, fun _ _ => rfl, ht56⟩
  rintro r a' w' ⟨i, hir, hgood, hkept, hd', hl', hsame, hi56⟩
  let envi : Env := ⟨fun k => if k = 0 then .s s else .i i, fun _ _ => .i 0, fun _ _ => .nilIface, fun _ => (#[], 0)⟩
  have ev0 : envi.v 0 = .s s := rfl
  have ev1 : envi.v 1 = .i i := rfl
  let u : Nat → Value := fun j => (a'.tmps.toList[j]?).getD undef
  let A' : Anchor := anchorBut w' (· = p.block)
  let ρ' : PMap := fun m => if m = 0 then some ⟨p.block, 0, 1, false⟩ else none
  have hblk' : w'.heap[p.block]? = some (.cells [Value.string s, v1, v2, v3, v4, v5].toArray 23 (0, 0)) := by
    rw [hkept.block p.block (Array.getElem?_eq_some_iff.1 hblk).1]; exact hblk
  have hcells : ∀ {ρ : PMap} {us : List Value}, SV.Rels envi ρ [.str (.v 0), .cst (g 1), .cst (g 2), .cst (g 3), .cst (g 4), .cst (g 5)] us ↔ us = [Value.string s, v1, v2, v3, v4, v5] := by
    intro ρ us
    constructor
    · intro h
      simp only [SV.Rels] at h
      obtain ⟨_, _, rfl, h0, _, _, rfl, h1, _, _, rfl, h2, _, _, rfl, h3, _, _, rfl, h4, _, _, rfl, h5, rfl⟩ := h
      simp only [SV.Rel] at h0 h1 h2 h3 h4 h5
      rw [h0, h1, h2, h3, h4, h5]
      rfl
    · rintro rfl
      exact ⟨_, _, rfl, rfl, _, _, rfl, rfl, _, _, rfl, rfl, _, _, rfl, rfl, _, _, rfl, rfl, _, _, rfl, rfl, rfl⟩
  have hget0 : ∀ m o, hget (cden (hC g)) m = some o → m = 0 ∧ o = .cells 23 [.str (.v 0), .cst (g 1), .cst (g 2), .cst (g 3), .cst (g 4), .cst (g 5)] := by
    intro m o hm
    have hm' : cget (hC g) m = some o := hm
    simp only [hC, cget] at hm'
    cases hb0 : Nat.beq 0 m with
    | true =>
      rw [hb0] at hm'
      exact ⟨(Nat.eq_of_beq_eq_true hb0).symm, by simpa using hm'.symm⟩
    | false => rw [hb0] at hm'; simp at hm'
  have hH : HSat envi A' ρ' (cden (hC g)) w' := by
    refine ⟨Kept.refl A', fun m o hm => ?_, fun m k o o' q q' hm hk _ _ _ _ _ => by rw [(hget0 m o hm).1, (hget0 k o' hk).1]⟩
    obtain ⟨rfl, rfl⟩ := hget0 m o hm
    exact ⟨⟨p.block, 0, 1, false⟩, [Value.string s, v1, v2, v3, v4, v5], rfl, fun h => h.2 rfl, rfl, rfl, hcells.2 rfl, hblk'⟩
  have hSat : Sat envi A' ρ' ⟨mkSl ov u 0 90, []⟩ (cden (hC g)) 1 a' w' := by
    refine ⟨hH, mkSl_rels (env := envi) (ρ := ρ') (ov := ov) (u := u) (vs := a'.tmps.toList) (fun j v hv => ?_) a'.tmps.toList 0 90 (fun k => by rw [Nat.zero_add]) hl', by rw [hd']; exact .nil, fun m q hm => ?_⟩
    · cases ho : ovGet ov j with
      | none => show u j = v; simp only [u, hv]; rfl
      | some x =>
        show SV.Rel envi ρ' x v
        have hj : (j = 4 ∧ x = .ptr 0 (.c 0)) ∨ (j = 55 ∧ x = .int .i64 (.o1 .size (.v 0))) ∨ (j = 56 ∧ x = .int .i64 (.v 1)) := by
          simp only [ov, ovGet] at ho
          cases h1 : Nat.beq 4 j with
          | true => rw [h1] at ho; exact .inl ⟨(Nat.eq_of_beq_eq_true h1).symm, by simpa using ho.symm⟩
          | false =>
            rw [h1] at ho
            cases h2 : Nat.beq 55 j with
            | true => rw [h2] at ho; exact .inr (.inl ⟨(Nat.eq_of_beq_eq_true h2).symm, by simpa using ho.symm⟩)
            | false =>
              rw [h2] at ho
              cases h3 : Nat.beq 56 j with
              | true => rw [h3] at ho; exact .inr (.inr ⟨(Nat.eq_of_beq_eq_true h3).symm, by simpa using ho.symm⟩)
              | false => rw [h3] at ho; simp at ho
        rcases hj with ⟨rfl, rfl⟩ | ⟨rfl, rfl⟩ | ⟨rfl, rfl⟩
        · rw [hsame 4 (by decide), ht4] at hv
          injection hv with hv
          subst hv
          exact ⟨⟨p.block, 0, 1, false⟩, rfl, rfl⟩
        · rw [hsame 55 (by decide), ht55] at hv
          injection hv with hv
          exact hv.symm
        · rw [hi56] at hv
          injection hv with hv
          exact hv.symm
    · show m < 1
      by_cases e : m = 0
      · omega
      · simp only [ρ', if_neg e] at hm; cases hm
  have hfit : InBody Try.prog 8 (loopsOf body) := inBody_theLoop 7 (by kernel_rfl)
  have hfs : Facts.Hold envi fsC := Facts.hold_cons (by rw [B_le]; exact decide_eq_true (by show (0 : Int) ≤ (i : Int); omega)) hold_nil
  -- behind the body: what is so of each of its ends
  have hend : ∀ {ρ2 : PMap} {ov2 : List (Nat × SV)} {a2 : Act} {w2 : World} {nx2 : Nat}, ρ'.le ρ2 → Sat envi A' ρ2 ⟨mkSl ov2 u 0 90, []⟩ (cden (hC g)) nx2 a2 w2 →
      Kept (anchor w) w2 ∧ a2.defers = [] ∧ a2.tmps.toList.length = 90 ∧ (∀ j, j < 90 → ovGet ov2 j = none → a2.tmps.toList[j]? = a'.tmps.toList[j]?) ∧ (∀ j x, j < 90 → ovGet ov2 j = some x → ∃ v, a2.tmps.toList[j]? = some v ∧ x.Rel envi ρ2 v) := by
    intro ρ2 ov2 a2 w2 nx2 hle h2
    refine ⟨hkept.trans (Kept.but h2.hs.below (fun k hk => ?_)), h2.df.nil_eq, by rw [h2.sl.length, mkSl_length], fun j hj ho => ?_, fun j x hj ho => ?_⟩
    · subst hk
      obtain ⟨q, us, hq, _, _, _, hus, hb2⟩ := h2.hs.objs 0 _ (show hget (cden (hC g)) 0 = some _ from rfl)
      have : ρ2 0 = some ⟨p.block, 0, 1, false⟩ := hle 0 _ rfl
      rw [this] at hq
      injection hq with hq
      subst hq
      rw [hcells.1 hus] at hb2
      rw [hb2, hblk']
    · obtain ⟨v, hv, hr⟩ := sl_of_mk h2.sl hj
      rw [ho] at hr
      rw [hv, hr]
      have : j < a'.tmps.toList.length := by omega
      show some ((a'.tmps.toList[j]?).getD undef) = _
      rw [List.getElem?_eq_getElem this]
      rfl
    · obtain ⟨v, hv, hr⟩ := sl_of_mk h2.sl hj
      rw [ho] at hr
      exact ⟨v, hv, hr⟩
  -- what stays
  have hstay : ∀ {ρ2 : PMap} {ov2 : List (Nat × SV)} {a2 : Act} {w2 : World} {nx2 : Nat}, ρ'.le ρ2 → Sat envi A' ρ2 ⟨mkSl ov2 u 0 90, []⟩ (cden (hC g)) nx2 a2 w2 →
      (∀ j, j ∈ ov2.map (·.1) → j ∈ 2 :: 4 :: 55 :: chg2) → ovGet ov2 4 = some (.ptr 0 (.c 0)) → ovGet ov2 55 = some (.int .i64 (.o1 .size (.v 0))) →
      ∀ j, j ∉ chg2 → j ≠ 2 → a2.tmps.toList[j]? = a.tmps.toList[j]? := by
    intro ρ2 ov2 a2 w2 nx2 hle h2 hov ho4 ho55 j hj hj2
    obtain ⟨_, _, hl2, hn, hsm⟩ := hend hle h2
    by_cases hjl : j < 90
    · by_cases e4 : j = 4
      · subst e4
        obtain ⟨v, hv, hr⟩ := hsm 4 _ hjl ho4
        obtain ⟨q, hq, rfl⟩ := hr
        have : ρ2 0 = some ⟨p.block, 0, 1, false⟩ := hle 0 _ rfl
        rw [this] at hq; injection hq with hq; subst hq
        rw [hv, ht4]; rfl
      · by_cases e55 : j = 55
        · subst e55
          obtain ⟨v, hv, hr⟩ := hsm 55 _ hjl ho55
          have : v = .int .i64 s.size := hr
          rw [hv, ht55, this]
        · rw [hn j hjl (ovGet_none fun hm => by
            have := hov j hm
            simp only [List.mem_cons] at this
            rcases this with h | h | h | h
            · exact hj2 h
            · exact e4 h
            · exact e55 h
            · exact hj (by simpa only [chg2, List.mem_cons] using h))]
          exact hsame j hj
    · rw [List.getElem?_eq_none (by omega), List.getElem?_eq_none (by omega)]
  have hlt : (tLt.den envi).B = decide ((i : Int) < (s.size : Int)) := rfl
  have hlo : (tLo.den envi).B = decide (byteAt s i < 32) := by unfold tLo; rw [B_lt, byte_den ev0 ev1]; rfl
  have hhi : (tHi.den envi).B = decide (126 < byteAt s i) := by unfold tHi; rw [B_lt, byte_den ev0 ev1]; rfl
  have hnxt : (nxt.den envi).I = (i : Int) + 1 := rfl
  have hret : i < s.size → ¬(32 ≤ byteAt s i ∧ byteAt s i ≤ 126) → ∀ {ρ2 : PMap} {a2 : Act} {w2 : World} {nx2 : Nat}, ρ'.le ρ2 →
      Sat envi A' ρ2 ⟨mkSl ((2, .bool (.bl false)) :: tp chg ++ ov) u 0 90, []⟩ (cden (hC g)) nx2 a2 w2 → Q .ret a2 w2 := by
    intro hi hbad ρ2 a2 w2 nx2 hle h2
    obtain ⟨hk2, hd2, hl2, _, hsm⟩ := hend hle h2
    have hst := hstay hle h2 (by decide) rfl rfl
    refine hq2 (by
      cases hbb : b with
      | false => rfl
      | true => exact absurd (hb.1 hbb i hi) hbad) a2 w2 ⟨hs.hs.later hk2, ?_, by rw [hd2]; exact .nil, hs.nx⟩
    have hset : SV.Rels env ρ (fr.sl.set 2 (.bool (.bl false))) (a.tmps.toList.set 2 (.bool false)) := hs.sl.set 2 (show SV.Rel env ρ (.bool (.bl false)) (.bool false) from rfl)
    have hlen2 : a2.tmps.toList.length = (a.tmps.toList.set 2 (.bool false)).length := by rw [List.length_set, hl2, hal]
    refine tops_rels' (js := chg2) (l := fr.sl.set 2 (.bool (.bl false))) (vs := a.tmps.toList.set 2 (.bool false)) (vs' := a2.tmps.toList) hset hlen2 (fun j hj => ?_)
    rw [List.getElem?_set]
    by_cases e2 : 2 = j
    · subst e2
      rw [if_pos rfl, if_pos (by omega)]
      obtain ⟨v, hv, hr⟩ := hsm 2 _ (by omega) (show ovGet ((2, .bool (.bl false)) :: tp chg ++ ov) 2 = some (.bool (.bl false)) from rfl)
      have : v = .bool false := hr
      rw [hv, this]
    · rw [if_neg e2]
      exact hst j hj (fun h => e2 h.symm)
  refine wp_of_exploreF plain mixed extOk_none hfit (body_paths u g) hfs hSat ?_
  unfold leavesC
  refine List.forall_mem_cons.2 ⟨fun hqf => ?_, List.forall_mem_cons.2 ⟨fun hqf => ?_, List.forall_mem_cons.2 ⟨fun hqf => ?_, List.forall_mem_cons.2 ⟨fun hqf => ?_, fun q hq => (by cases hq)⟩⟩⟩⟩
  · have f1 := hqf tLo true (List.mem_cons_self ..)
    have f2 := hqf tLt true (by simp)
    rw [hlo] at f1; rw [hlt] at f2
    have f1 := of_decide_eq_true f1
    have f2 := of_decide_eq_true f2
    exact ⟨fun e he => (by cases he), fun ρ2 a2 w2 hle h2 => hret (by omega) (by omega) hle h2⟩
  · have f1 := hqf tHi true (by simp)
    have f2 := hqf tLt true (by simp)
    rw [hhi] at f1; rw [hlt] at f2
    have f1 := of_decide_eq_true f1
    have f2 := of_decide_eq_true f2
    exact ⟨fun e he => (by cases he), fun ρ2 a2 w2 hle h2 => hret (by omega) (by omega) hle h2⟩
  · have f1 := hqf tLo false (by simp)
    have f3 := hqf tHi false (by simp)
    have f2 := hqf tLt true (by simp)
    rw [hlo] at f1; rw [hhi] at f3; rw [hlt] at f2
    have f1 := of_decide_eq_false f1
    have f3 := of_decide_eq_false f3
    have f2 := of_decide_eq_true f2
    have hmx : maxLen = 9223372036854775807 := by decide
    refine ⟨fun e he => ?_, fun ρ2 a2 w2 hle h2 => ?_⟩
    · simp only [List.mem_cons, List.not_mem_nil, or_false] at he
      rcases he with rfl | rfl
      · rw [B_le, hnxt]; exact decide_eq_true (by show (i : Int) + 1 ≤ 9223372036854775807; omega)
      · rw [B_le, hnxt]; exact decide_eq_true (by show (-9223372036854775808 : Int) ≤ (i : Int) + 1; omega)
    · obtain ⟨hk2, hd2, hl2, hn2, hsm⟩ := hend hle h2
      have hst := hstay hle h2 (by decide) rfl rfl
      refine ⟨r - 1, by omega, i + 1, by omega, fun k hk => ?_, hk2, hd2, hl2, fun j hj => ?_, ?_⟩
      · by_cases e : k = i
        · subst e; omega
        · exact hgood k (by omega)
      · by_cases e2 : j = 2
        · subst e2
          rw [hn2 2 (by omega) rfl]
          exact hsame 2 hj
        · exact hst j hj e2
      · obtain ⟨v, hv, hr⟩ := hsm 56 _ (by omega) (show ovGet ((56, .int .i64 nxt) :: tp chg ++ ov) 56 = some (.int .i64 nxt) from rfl)
        have : v = .int .i64 (nxt.den envi).I := hr
        rw [hv, this, hnxt]; rfl
  · have f2 := hqf tLt false (by simp)
    rw [hlt] at f2
    have f2 := of_decide_eq_false f2
    refine ⟨fun e he => (by cases he), fun ρ2 a2 w2 hle h2 => ?_⟩
    obtain ⟨hk2, hd2, hl2, hn2, hsm⟩ := hend hle h2
    have hst := hstay hle h2 (by decide) rfl rfl
    have hbt : b = true := hb.2 (fun k hk => hgood k (by omega))
    refine hq1 hbt a2 w2 ⟨hs.hs.later hk2, ?_, by rw [hd2]; exact .nil, hs.nx⟩
    refine tops_rels' (js := chg2) (l := fr.sl) (vs := a.tmps.toList) (vs' := a2.tmps.toList) hs.sl (by rw [hl2, hal]) (fun j hj => ?_)
    by_cases e2 : j = 2
    · subst e2
      rw [hn2 2 (by omega) rfl]
      exact hsame 2 hj
    · exact hst j hj e2

end Go.Proofs.Ytagpchabkplggaa.sxElects
