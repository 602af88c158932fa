/-
  THE LAW FnBackoffAnswers (proved): whatever events come, and whatever is asked, a backoff answers as the reference does. No conditions beside the law's own guards.
-/
import Derived.Test.YtagpchabkplggaaSxBoK
import Derived.Test.YtagpchabkplggaaSxBoA
import Derived.Test.YtagpchabkplggaaSxMLoopH
namespace Go.Proofs.Ytagpchabkplggaa.sxBackoff
open Go.Sx Go.RowKit
set_option linter.unusedVariables false
set_option linter.unusedSimpArgs false
set_option maxRecDepth 100000
set_option maxHeartbeats 16000000

/-! ### rows under other keys that are the same -/
def KeyF (q : KQ) (l : List Row) (f : Row → Row) : Prop := ∀ r ∈ l, ∀ k, q.eq (hd (f r)) k = q.eq (hd r) k
theorem KeyF.tail {q : KQ} {a : Row} {l : List Row} {f : Row → Row} (h : KeyF q (a :: l) f) : KeyF q l f := fun r hr => h r (List.mem_cons_of_mem _ hr)
theorem mfind_mapF {q : KQ} {k : Dv} {f : Row → Row} : ∀ {l : List Row}, KeyF q l f → mfind q k (l.map f) = mfind q k l
  | [], _ => rfl
  | r :: l, h => by rw [List.map_cons, mfind_cons, mfind_cons, h r (List.mem_cons_self ..), mfind_mapF h.tail]
theorem mget_mapF {q : KQ} {k : Dv} {f : Row → Row} {l : List Row} (h : KeyF q l f) : mget q (l.map f) k = (mget q l k).map f := by
  unfold mget
  rw [mfind_mapF h]
  cases mfind q k l <;> simp
theorem mput_mapF {q : KQ} {f : Row → Row} {l : List Row} {r : Row} (h : KeyF q l f) (hr : q.eq (hd (f r)) (hd r) = true) : mput q (l.map f) (f r) = (mput q l r).map f := by
  have e : mfind q ((f r).headD (.i 0)) (l.map f) = mfind q (r.headD (.i 0)) l := by
    rw [mfind_mapF h]
    have : ∀ l : List Row, mfind q (hd (f r)) l = mfind q (hd r) l := by
      intro l
      induction l with
      | nil => rfl
      | cons x l ih => rw [mfind_cons, mfind_cons, ih, eq_comm', eq_trans' (c := hd x) hr, eq_comm']
    exact this l
  unfold mput
  rw [e]
  cases mfind q (r.headD (.i 0)) l with
  | none => simp
  | some i => simp [List.map_set]
theorem mdel_mapF {q : KQ} {f : Row → Row} {l : List Row} {k : Dv} (h : KeyF q l f) : mdel q (l.map f) k = (mdel q l k).map f := by
  unfold mdel
  rw [mfind_mapF h]
  cases mfind q k l with
  | none => rfl
  | some i =>
    show (l.map f).eraseIdx i = (l.eraseIdx i).map f
    clear h
    induction l generalizing i with
    | nil => rfl
    | cons x l ih => cases i with
      | zero => rfl
      | succ i => simp only [List.map_cons, List.eraseIdx_cons_succ, ih]
theorem put_put {q : KQ} {x y : Row} (h : q.eq (hd x) (hd y) = true) : ∀ {l : List Row}, mput q (mput q l x) y = mput q l y
  | [] => by rw [mput_nil, mput_cons, h, mput_nil]; rfl
  | r :: l => by
    rw [mput_cons, mput_cons]
    have e : q.eq (hd r) (hd x) = q.eq (hd r) (hd y) := by rw [eq_comm', eq_trans' (c := hd r) h, eq_comm']
    rw [e]
    cases hb : q.eq (hd r) (hd y) with
    | true => rw [cond_true, cond_true, mput_cons, h]; rfl
    | false => rw [cond_false, cond_false, mput_cons, hb, cond_false, put_put h]
theorem keyW {n : Nat} {s : BS} (h : Inv n s) : KeyF .s s.A pickW := fun r hr k => by
  show KQ.eq .s (cc r 4) k = _
  exact eq_trans' (h.A r hr).key
theorem pickW_1 {r : Row} : cc (pickW r) 1 = cc r 2 := id rfl
theorem last_W {n : Nat} {s : BS} (h : Inv n s) {r : Row} (hr : r ∈ s.A) {k : Dv} (hk : KQ.eq .s k (hd r) = true) : last s.L k = rI r 3 := by
  obtain ⟨x, h1, h2⟩ := (h.A r hr).last
  unfold last
  rw [mget_key hk, h1]
  show (cc x 1).I = _
  rw [h2]; rfl
theorem good_W {n : Nat} {s : BS} (h : Inv n s) (hT : s.T ≤ 225179981368524800) {m : Int} (hm : 0 ≤ m ∧ m ≤ 9007199254740992) : GoodW (s.A.map pickW) s.L s.T m := by
  refine ⟨List.pairwise_map.2 (h.keys.imp_of_mem fun {a b} ha hb hab => ?_), fun r hr => ⟨(h.L r hr).1, Int.le_trans (h.L r hr).2 (by omega)⟩, ⟨h.T.1, by omega⟩, hm⟩
  rw [keyW h a ha, eq_comm', keyW h b hb, eq_comm']; exact hab
theorem filt_W {n : Nat} {s : BS} (h : Inv n s) {m : Int} : (s.A.map pickW).filter (fun r => !(expW s.L s.T m r)) = (s.A.filter fun r => !(expd m s.T (rI r 3))).map pickW := by
  rw [List.filter_map]
  congr 1
  refine List.filter_congr fun r hr => ?_
  show (!(expd m s.T (last s.L (cc r 4)))) = _
  rw [last_W h hr (h.A r hr).key]

section
variable {o : Env} {r : Nat}
theorem an_all (hu : o.uf = UF) (hr : o.v 2023 = .i r) (hle : r ≤ (o.v 7502).T.length) (hlen : (o.v 7502).T.length ≤ 200) (hg : good (o.v 7502) = true) (hgot : (o.v 7503).T = answers (o.v 7500) (o.v 7501).I (o.v 7502))
    (hi : 0 ≤ (o.v 7500).I ∧ (o.v 7500).I ≤ 9007199254740992) (hm : 0 ≤ (o.v 7501).I ∧ (o.v 7501).I ≤ 9007199254740992) : AllL o anL := by
  have hinv := inv_N hi hm hg r hle
  have hT := hinv.T
  have hT2 : (stN (o.v 7500) (o.v 7501).I (o.v 7502) r).T ≤ 225179981368524800 := by omega
  have hlg : (o.v 7503).T.length = (o.v 7502).T.length := by rw [hgot, answers_len]
  have hst : stN (o.v 7500) (o.v 7501).I (o.v 7502) (r + 1) = st1 (o.v 7500) (o.v 7501).I (stN (o.v 7500) (o.v 7501).I (o.v 7502) r) (row (o.v 7502) r) := rfl
  rcases Nat.lt_or_ge r (o.v 7502).T.length with hlt | hge
  · have hans : row (o.v 7503) r = an1 (o.v 7501).I (stN (o.v 7500) (o.v 7501).I (o.v 7502) r) (row (o.v 7502) r) := by
      have := answers_at (i := o.v 7500) (m := (o.v 7501).I) hlt
      rw [← this]
      show ((o.v 7503).T[r]?).getD [] = _
      rw [hgot]; rfl
    have hop := good_op hg hlt
    generalize hs : stN (o.v 7500) (o.v 7501).I (o.v 7502) r = s at *
    generalize hopd : row (o.v 7502) r = op at *
    have hgc := filt_W hinv (m := (o.v 7501).I)
    have hgm := dec_iff.2 (good_W hinv hT2 hm)
    have hv0 : vis (.i 0) = [] := rfl
    have hkf := keyW hinv
    have ho := hop.t
    have ho1 : (cc op 2).I = rI op 2 := rfl
    have ho0 : (cc op 0).I = rI op 0 := rfl
    simp only [anL, allL_cons, allL_nil, and_true]
    cases hf : mget .s s.A (cc op 1) with
    | none =>
      have hn : ¬ 0 ≤ mfindI .s (cc op 1) (s.A.map pickW) := by rw [mf_none, mget_mapF hkf, hf]; rfl
      have e2 : an1 (o.v 7501).I s op = [.b false, .i 0] := by unfold an1; rw [hf]
      rw [e2] at hans
      and_intros
      all_goals intro h
      all_goals simp only [hold_cons_iff, hold_nil_iff, allT_cons, allT_nil, ob_e, ob_t, dB_lt, dB_le, dB_ieq, dB_beq, dB_not, dB_bl, dI_il, dI_sub, dI_add, dI_mul, dI_tlen, dI_mx, dI_mn, d_cell, dI_mf, d_mf, d_uf, d_cel, d_v, d_il, d_bl, d_add, d_mul, d_mn, d_tlen, dT_md, dT_mp, dT_cat, hu, UF_66, UF_67, UF_68, UF_73, UF_74, UF_75, S_pk, ar_0, ar_1, ar_2, ar_3, ar_4, hr, hs, hst, hopd, T_t, T_i, I_i, B_b, T_cel, row_cel, row_i, toNat_succ, Int.toNat_natCast, cast_lt, cast_le, decide_eq_true_eq, decide_eq_false_iff_not, beq_iff_eq, beq_eq_false_iff_ne, List.head?_nil, List.head?_cons, Option.getD_none, Option.getD_some, List.headD_cons, List.tail_cons, cc_0, cc_1, cc_2, false_and, and_false, not_false_eq_true, not_true_eq_false, false_implies, implies_true, and_true, true_and, hlt, hlg, Bool.true_eq_false, Bool.false_eq_true, hn, hans, hgm, hv0, cur_0, hgc, ho0, ho1, mdel_mapF hkf] at h ⊢
      all_goals simp only [st1, hf, h, freshS, Int.reduceEq, if_true, if_false, or_false, or_true, false_or, true_or, and_true, true_and, or_self, if_neg, not_false_eq_true]
      · exact mput_mapF (r := [cc op 1, .i s.E.length, o.v 7500, .i s.T, cc op 1]) hkf s_eq_self
      · have hc := hop.c h.1
        omega
    | some r0 =>
      obtain ⟨hr0m, hr0k⟩ := mget_mem hf
      have R := hinv.A r0 hr0m
      have hfm : mget .s (s.A.map pickW) (cc op 1) = some (pickW r0) := by rw [mget_mapF hkf, hf]; rfl
      have hn : 0 ≤ mfindI .s (cc op 1) (s.A.map pickW) := mf_nn.2 ⟨_, hfm⟩
      have hrow := row_mf hfm
      obtain ⟨x, hx1, hx2⟩ := R.last
      rw [mget_key hr0k] at hx1
      have hnl : 0 ≤ mfindI .s (cc op 1) s.L := mf_nn.2 ⟨_, hx1⟩
      have hlast : (cc (row (.t s.L) (mfindI .s (cc op 1) s.L).toNat) 1).I = rI r0 3 := by rw [row_mf hx1, hx2]; rfl
      have hw := R.w
      have hl := R.l
      have hw1 : (cc r0 2).I = rI r0 2 := rfl
      have h2 : ∀ t : Int, (o.v 7501).I * 2 < t ↔ 2 * (o.v 7501).I < t := fun t => by omega
      have hkind : rI op 0 = 1 ∨ rI op 0 = 2 ∨ rI op 0 = 7 ∨ rI op 0 = 3 ∨ rI op 0 = 4 ∨ rI op 0 = 5 ∨ rI op 0 = 6 ∨ rI op 0 = 8 ∨ (¬ rI op 0 = 1 ∧ ¬ rI op 0 = 2 ∧ ¬ rI op 0 = 7 ∧ ¬ rI op 0 = 3 ∧ ¬ rI op 0 = 4 ∧ ¬ rI op 0 = 5 ∧ ¬ rI op 0 = 6 ∧ ¬ rI op 0 = 8) := by omega
      rcases hkind with hk | hk | hk | hk | hk | hk | hk | hk | hk
      all_goals simp only [an1, hf, hk, expd, h2, Int.reduceEq, if_true, if_false] at hans
      all_goals simp only [st1, hf, hk, expd, h2, Int.reduceEq, if_true, if_false, or_false, or_true, false_or, true_or, or_self, decide_eq_true_eq] at hst
      all_goals and_intros
      all_goals intro h
      all_goals simp only [hold_cons_iff, hold_nil_iff, allT_cons, allT_nil, ob_e, ob_t, dB_lt, dB_le, dB_ieq, dB_beq, dB_not, dB_bl, dI_il, dI_sub, dI_add, dI_mul, dI_tlen, dI_mx, dI_mn, d_cell, dI_mf, d_mf, d_uf, d_cel, d_v, d_il, d_bl, d_add, d_mul, d_mn, d_tlen, dT_md, dT_mp, dT_cat, hu, UF_66, UF_67, UF_68, UF_73, UF_74, UF_75, S_pk, ar_0, ar_1, ar_2, ar_3, ar_4, hr, hs, hst, hopd, T_t, T_i, I_i, B_b, T_cel, row_cel, row_i, toNat_succ, Int.toNat_natCast, cast_lt, cast_le, decide_eq_true_eq, decide_eq_false_iff_not, beq_iff_eq, beq_eq_false_iff_ne, List.head?_nil, List.head?_cons, Option.getD_none, Option.getD_some, List.headD_cons, List.tail_cons, cc_0, cc_1, cc_2, false_and, and_false, not_false_eq_true, not_true_eq_false, false_implies, implies_true, and_true, true_and, hlt, hlg, Bool.true_eq_false, Bool.false_eq_true, hk, Int.reduceEq, hn, hnl, hlast, hrow, pickW_1, hw1, hans, hgm, hv0, cur_0, hgc, ho0, ho1, mdel_mapF hkf] at h ⊢
      all_goals first
        | omega
        | (rw [if_pos h]
           exact ⟨by omega, mput_mapF (r := [cc op 1, .i s.E.length, o.v 7500, .i s.T, cc op 1]) hkf s_eq_self, rfl, rfl⟩)
        | (have hc := hop.c hk; omega)
        | grind
        | skip
      · simp only [if_neg h]
        have hwn : ∀ inst : Decidable ((o.v 7501).I < 2 * rI r0 2), (@ite Int ((o.v 7501).I < 2 * rI r0 2) inst (o.v 7501).I (2 * rI r0 2)) = wNew (o.v 7501).I (rI r0 2) := by
          intro inst
          unfold wNew
          by_cases hc : (o.v 7501).I < 2 * rI r0 2
          · rw [if_pos hc, if_pos (by omega)]
          · rw [if_neg hc, if_neg (by omega)]; omega
        have hpp := put_put (q := .s) (x := [cc op 1, o.v 7500]) (y := [cc op 1, .i (wNew (o.v 7501).I (rI r0 2))]) s_eq_self (l := s.A.map pickW)
        refine ⟨by omega, by omega, by omega, ?_, rfl, rfl⟩
        rw [hwn]
        rw [hpp]
        refine mput_mapF (r := [cc r0 0, cc r0 1, .i (wNew (o.v 7501).I (rI r0 2)), .i s.T, cc op 1]) hkf ?_
        show KQ.eq .s (cc op 1) (cc r0 0) = true
        rw [eq_comm', ← hd_cc]; exact hr0k
      · simp only [expd, h2, and_true]
        omega
  · have hge' : ¬ r < (o.v 7502).T.length := by omega
    simp only [anL, allL_cons, allL_nil, and_true]
    and_intros
    all_goals intro h
    all_goals simp only [hold_cons_iff, hold_nil_iff, allT_cons, allT_nil, ob_e, ob_t, dB_lt, dB_le, dB_ieq, dB_beq, dB_not, dB_bl, dI_il, dI_sub, dI_add, dI_mul, dI_tlen, dI_mx, dI_mn, d_cell, dI_mf, d_mf, d_uf, d_cel, d_v, d_il, d_bl, d_add, d_mul, d_mn, d_tlen, dT_md, dT_mp, dT_cat, hu, UF_66, UF_67, UF_68, UF_73, UF_74, UF_75, S_pk, ar_0, ar_1, ar_2, ar_3, ar_4, hr, T_t, T_i, I_i, B_b, T_cel, row_cel, row_i, toNat_succ, Int.toNat_natCast, cast_lt, cast_le, decide_eq_true_eq, decide_eq_false_iff_not, beq_iff_eq, beq_eq_false_iff_ne, List.head?_nil, List.head?_cons, Option.getD_none, Option.getD_some, List.headD_cons, List.tail_cons, cc_0, cc_1, cc_2, false_and, and_false, not_false_eq_true, not_true_eq_false, false_implies, implies_true, and_true, true_and, hge', hlg, Bool.true_eq_false, Bool.false_eq_true] at h ⊢
end
end Go.Proofs.Ytagpchabkplggaa.sxBackoff

namespace Go.Proofs.Ytagpchabkplggaa.sxBackoff
open Go.Sx
set_option linter.unusedVariables false
abbrev bl0 : E := .o2 .lt (.il 2147483647) (.o1 .tlen (.v 64))
abbrev bl1 : Facts := [((.o2 .le (.il (-9223372036854775808)) (.v 0)), true), ((.o2 .le (.v 0) (.il 9223372036854775807)), true), ((.o2 .le (.il (-9223372036854775808)) (.v 32)), true), ((.o2 .le (.v 32) (.il 9223372036854775807)), true), ((.o2 .le (.o1 .tlen (.v 64)) (.il 9223372036854775807)), true)]
abbrev bl2 : Facts := ((bl0, false) : E × Bool) :: bl1
abbrev bl3 : Facts := (((.uf 1 (.o2 .cel (.v 64) (.il 0))), false) : E × Bool) :: bl2
abbrev bl4 : E := .o2 .lt (.il 9007199254740992) (.v 0)
abbrev bl5 : Facts := (((.o2 .lt (.v 0) (.il 0)), false) : E × Bool) :: bl3
abbrev bl6 : Facts := ((bl4, false) : E × Bool) :: bl5
abbrev bl7 : E := .o2 .lt (.il 9007199254740992) (.v 32)
abbrev bl8 : Facts := (((.o2 .lt (.v 32) (.il 0)), false) : E × Bool) :: bl6
abbrev bl9 : E := .o2 .lt (.il 200) (.o1 .tlen (.v 64))
abbrev bl10 : Facts := ((bl7, false) : E × Bool) :: bl8
abbrev bl11 : Facts := ((bl9, false) : E × Bool) :: bl10
abbrev bl12 : E := .o2 .cel (.v 0) (.o2 .cel (.v 32) (.o2 .cel (.v 64) (.il 0)))
abbrev bl13 : E := .o2 .ieq (.o1 .tlen (.uf 63 bl12)) (.o1 .tlen (.v 64))
abbrev bl14 : Facts := (((.uf 3 (.o2 .cel (.v 64) (.il 0))), false) : E × Bool) :: bl11
abbrev bl15 : E := .o2 .cel (.v 0) (.o2 .cel (.v 32) (.o2 .cel (.v 64) (.o2 .cel (.il 0) (.il 0))))
abbrev bl16 : List Ob := [(.e (.uf 64 bl12))]
def lawL : List (Facts × List Ob) :=
  [((((bl0, true) : E × Bool) :: bl1),
    [(.e (.bl true))]),
   (((((.uf 1 (.o2 .cel (.v 64) (.il 0))), true) : E × Bool) :: bl2),
    [(.e (.bl true))]),
   (((((.o2 .lt (.v 0) (.il 0)), true) : E × Bool) :: bl3),
    [(.e (.bl true))]),
   ((((bl4, true) : E × Bool) :: bl5),
    [(.e (.bl true))]),
   (((((.o2 .lt (.v 32) (.il 0)), true) : E × Bool) :: bl6),
    [(.e (.bl true))]),
   ((((bl7, true) : E × Bool) :: bl8),
    [(.e (.bl true))]),
   ((((bl9, true) : E × Bool) :: bl10),
    [(.e (.bl true))]),
   (((((.uf 3 (.o2 .cel (.v 64) (.il 0))), true) : E × Bool) :: bl11),
    [(.e (.bl true))]),
   ((((bl13, true) : E × Bool) :: bl14),
    (((.e (.bl true)) : Ob) :: ((.e (.o2 .ieq (.il 0) (.uf 66 bl15))) : Ob) :: ((.t (.il 0) (.uf 68 bl15)) : Ob) :: ((.t (.il 0) (.uf 67 bl15)) : Ob) :: ((.e (.uf 76 (.o2 .cel (.v 0) (.o2 .cel (.v 32) (.o2 .cel (.v 64) (.o2 .cel (.uf 63 bl12) (.il 0))))))) : Ob) :: bl16)),
   ((((bl13, false) : E × Bool) :: bl14),
    (((.e (.bl false)) : Ob) :: bl16))]
end Go.Proofs.Ytagpchabkplggaa.sxBackoff

namespace Go.Proofs.Ytagpchabkplggaa.sxBackoff
open Go.Sx Go.RowKit
set_option linter.unusedVariables false
set_option linter.unusedSimpArgs false
set_option maxRecDepth 100000

theorem anY_obl : anY.obl Try.prog 0 = some anL := by kernel_rfl
theorem law_obl : lawObl Try.prog cA.x 6 [.int .i64, .int .i64, .dsl opK] 80 = some lawL := by kernel_rfl
section
variable {o : Env}
theorem cS_ok (hu : o.uf = UF) (A : Anchor) : ExtOk Try.prog o A (cS.x.toExt Try.prog) := by
  refine Ctr.ok (by kernel_rfl) (fun x hx => by cases hx) (fun x hx => ?_) A
  rcases List.mem_cons.1 hx with rfl | hx
  · exact sp_ok hu
  · cases hx
theorem an_ent {e : Env} (hu : e.uf = UF) (h : (anY.ent 0).Hold e) : (e.v 7502).T.length ≤ 200 ∧ good (e.v 7502) = true ∧ (e.v 7503).T = answers (e.v 7500) (e.v 7501).I (e.v 7502) ∧ (0 ≤ (e.v 7500).I ∧ (e.v 7500).I ≤ 9007199254740992) ∧ (0 ≤ (e.v 7501).I ∧ (e.v 7501).I ≤ 9007199254740992) := by
  simp only [anY, anF, aG, pk, List.foldr, hold_cons_iff, hold_nil_iff, dB_le, dB_ieq, dI_il, dI_tlen, d_v, d_uf, d_cel, hu, UF_76, ar_0, ar_1, ar_2, ar_3, B_b, dec_iff, decide_eq_true_eq, and_true] at h
  obtain ⟨⟨h1, h2⟩, h3, h4, h5, h6, h7, h8⟩ := h
  exact ⟨by omega, h1, h2, ⟨h5, h6⟩, h7, h8⟩
theorem an_ok (hu : o.uf = UF) : LpOk Try.prog o 6 10 anY.lpP := by
  refine one_ok plain mixed (D := anY) (by kernel_rfl) (fun e => (e.v 7502).T.length) anY_obl (fun m h => m_of h) (fun m h => m_of h) (fun _ => rfl) (fun e i u A he h hi => cS_ok (o := anY.env e u i) (he.uf.trans hu) A)
    (fun e he h i u hi => ?_) (fun e he h i u hi => ?_) (fun e he h i u hi hl => ?_)
  · obtain ⟨h1, h2, h3, h4, h5⟩ := an_ent (he.uf.trans hu) h
    exact an_all (o := anY.env e u i) (r := i) (he.uf.trans hu) rfl hi h1 h2 h3 h4 h5
  · have h0 : Facts.Hold (anY.env e u i) anF := by
      have h1 : Facts.Hold e anF := h
      have hu' := he.uf.trans hu
      simp only [anF, aG, pk, List.foldr, hold_cons_iff, hold_nil_iff, dB_le, dB_ieq, dI_il, dI_tlen, d_v, d_uf, d_cel, LoopY.env, anY, if_true, if_false, Nat.reduceEqDiff] at h1 ⊢
      exact h1
    show Facts.Hold (anY.env e u i) ([(.o2 .le (.il 0) r23, true), (.o2 .le r23 (.o1 .tlen (.v 7502)), true)] ++ anF)
    refine hold_append_iff.2 ⟨?_, h0⟩
    simp only [hold_cons_iff, hold_nil_iff, r23, dB_le, dI_il, dI_tlen, d_v, LoopY.env, anY, if_true, if_false, Nat.reduceEqDiff, I_i, decide_eq_true_eq, and_true]
    omega
  · simp only [anY, r23, dB_lt, dI_tlen, d_v, LoopY.env, if_true, if_false, Nat.reduceEqDiff, I_i, decide_eq_true_eq] at hl
    omega
theorem cA_ok (hu : o.uf = UF) (A : Anchor) : ExtOk Try.prog o A (cA.x.toExt Try.prog) := by
  refine Ctr.ok (by kernel_rfl) (fun x hx => ?_) (fun x hx => ?_) A
  · have hx : x ∈ [(15, bkFn.funP), (14, shutP true)] := hx
    simp only [List.mem_cons, List.not_mem_nil, or_false] at hx
    rcases hx with rfl | rfl
    · exact bkFn_ok hu
    · exact shut_ok plain mixed live_says
  have hx : x ∈ [(16, 4, fits22.lpP), (17, 4, boGood.lpP), (6, 10, anY.lpP)] := hx
  simp only [List.mem_cons, List.not_mem_nil, or_false] at hx
  rcases hx with rfl | rfl | rfl
  · exact fits22_ok hu
  · exact boGood_ok hu
  · exact an_ok hu
theorem law_all (hu : o.uf = UF) : AllL o lawL := by
  simp only [lawL, allL_cons, allL_nil, and_true]
  and_intros
  all_goals intro h
  all_goals simp only [hold_cons_iff, hold_nil_iff, allT_cons, allT_nil, ob_e, ob_t, dB_lt, dB_le, dB_ieq, dB_not, dB_bl, dI_il, dI_tlen, d_v, d_uf, d_cel, d_il, hu, UF_1, UF_3, UF_63, UF_64, UF_66, UF_67, UF_68, UF_76, S_pk, ar_0, ar_1, ar_2, ar_3, I_i, B_b, T_i, T_t, Int.toNat_zero, answers_len, dec_iff, decide_eq_true_eq, and_true, true_and] at h ⊢
  all_goals try (exact trivial)
  · have hg : good (o.v 64) = true := by unfold good; rw [h.1]; rfl
    exact ⟨rfl, rfl, rfl, hg, hg⟩
  · exact absurd h.1 (by simp)
end

/-! ### the law -/
def ks : List PK := [.int .i64, .int .i64, .dsl opK]
theorem own : ownKnob Try.prog.godebug = none := by kernel_rfl
theorem laid : laidOutB Try.prog = true := by kernel_rfl
theorem an_contract (H : Type) (enc : TypeId × Value → H) (W : World) (base : Nat) (args : Array Value) (ds gs : List (DataW H)) (before : List MemPlace)
    (hval : ∀ (j : Nat) t v, Try.f6.params[j]? = some t → args[j]? = some v → Value.okWide Try.prog W .any base t v)
    (hW : DataW.Whole enc Try.prog Try.f6.params.toList Rows.fnBackoffAnswersSpec.vars false W args.toList ds gs before) :
    Calls Try.prog 6 args W fun e W' => ∃ v, e = .returned v ∧ Rows.fnBackoffAnswersSpec.post enc Try.prog Try.f6 false true false false W args v W' :=
  law_contract laid (ks := ks) (tb := 4) (by kernel_rfl) (by kernel_rfl) (by kernel_rfl) (by kernel_rfl) rfl
    (fun ds hd => by
      match ds, hd with
      | [d, e, f], _ => rfl) (fun vs hl hall => law_walk plain mixed (by decide) law_obl (fun o A hu => cA_ok hu A) (fun o hu => law_all hu) W vs hl hall) hval hW

theorem an_lifted (os : Os) (started : os.Started) (H : Type) (enc : TypeId × Value → H) :
    ReturnsInHanded {} Try.checked os 6 .any (Rows.fnBackoffAnswersSpec.pre6 enc Try.prog Try.f6 Rows.fnBackoffAnswersRow.domain false) (Rows.fnBackoffAnswersSpec.post enc Try.prog Try.f6 false true false false) := by
  refine returnsInHanded_of_change (C := Try.checked) (s := Rows.fnBackoffAnswersSpec) own started (by kernel_rfl) Try.func6
    (ChangeSpec.witness6 (enc := enc) (C := Try.checked) false ⟨#[], #[.int .i64 0, .int .i64 0, .slice none 0 0], []⟩ 8 (by kernel_rfl) (by kernel_rfl) (by kernel_rfl) (by kernel_rfl)) ?_
  intro W base args ds gs before hval hW _ _
  exact an_contract H enc W base args ds gs before hval hW

theorem anProved : Rows.FnBackoffAnswersSaid :=
  OpenClaim.holds_of_wide 6 Try.f6 rfl rfl rfl rfl rfl rfl rfl ⟨rfl, rfl, rfl, rfl, rfl⟩ rfl rfl rfl rfl rfl (by kernel_rfl) Try.func6 (by kernel_rfl)
    (of_decide_eq_true (by kernel_rfl)) (by unfold Func.isWrapper; first | (rw [if_pos (by decide +kernel)]; kernel_rfl) | (rw [if_neg (by decide +kernel)]; exact ⟨rfl, rfl⟩))
    (fun os started H enc _ => an_lifted os started H enc)

end Go.Proofs.Ytagpchabkplggaa.sxBackoff
