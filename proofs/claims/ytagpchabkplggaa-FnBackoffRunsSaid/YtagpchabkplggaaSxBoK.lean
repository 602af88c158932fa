/-
  THE LAWS FnBackoff*: the loops' contracts, and impl.Backoff's.
-/
import Derived.Test.YtagpchabkplggaaSxBoU
import Derived.Test.YtagpchabkplggaaRows
namespace Go.Proofs.Ytagpchabkplggaa.sxBackoff
open Go.Sx Go.RowKit
set_option linter.unusedVariables false
set_option linter.unusedSimpArgs false
set_option maxRecDepth 100000
set_option maxHeartbeats 8000000

theorem mget_map {q : KQ} {k : Dv} {f : Row → Row} (hf : ∀ r, hd (f r) = hd r) {l : List Row} : mget q (l.map f) k = (mget q l k).map f := by
  unfold mget
  rw [mfind_map hf]
  cases mfind q k l <;> simp
theorem cc_0 {a : Dv} {l : Row} : cc (a :: l) 0 = a := id rfl
theorem cc_1 {a b : Dv} {l : Row} : cc (a :: b :: l) 1 = b := id rfl
theorem cc_2 {a b c : Dv} {l : Row} : cc (a :: b :: c :: l) 2 = c := id rfl
theorem row_t {l : List Row} {n : Nat} : row (.t l) n = (l[n]?).getD [] := id rfl
theorem toNat_succ {r : Nat} : ((r : Int) + 1).toNat = r + 1 := by omega
theorem dv_s {a b : Dv} : KK.str.dv a = KK.str.dv b ↔ KQ.eq .s a b = true := by
  show Value.string a.S = Value.string b.S ↔ (a.S.toList == b.S.toList) = true
  constructor
  · intro h; injection h with h; rw [h]; exact beq_self_eq_true _
  · intro h
    have h4 : (a.S == b.S) = true := by rw [Go.Sx.bytes_beq]; exact h
    have h5 : (a.S.data == b.S.data) = true := h4
    have e : a.S = b.S := ByteArray.ext (by simpa using h5)
    rw [e]
/-- The last row anew. -/
theorem set_last {l : List Row} {x y : Row} : (l ++ [x]).set ((l.length : Nat) : Int).toNat y = l ++ [y] := by
  rw [Int.toNat_natCast]
  induction l with
  | nil => rfl
  | cons a l ih => simp [ih]
theorem get_last {l : List Row} {x : Row} : (l ++ [x])[((l.length : Nat) : Int).toNat]? = some x := by
  rw [Int.toNat_natCast, List.getElem?_append_right (Nat.le_refl _), Nat.sub_self]; rfl
theorem set_set' {l : List Row} {n : Nat} {x y : Row} : (l.set n x).set n y = l.set n y := by simp
theorem get_set' {l : List Row} {n : Nat} {x y : Row} (h : l[n]? = some x) : (l.set n y)[n]? = some y := by
  rw [List.getElem?_set_self (List.getElem?_eq_some_iff.1 h).1]

theorem good_M {n : Nat} {s : BS} (h : Inv n s) (hT : s.T ≤ 450359962737049600) {m : Int} (hm : 0 ≤ m ∧ m ≤ 9007199254740992) : GoodM (s.A.map (pick2 1)) (.t s.E) s.T m := by
  refine ⟨List.pairwise_map.2 (h.keys.imp fun {a b} hab => by rw [hd_pick2, hd_pick2]; exact hab), fun r hr => ?_, ⟨h.T.1, by omega⟩, hm⟩
  obtain ⟨r0, hr0, rfl⟩ := List.mem_map.1 hr
  have R := h.A r0 hr0
  refine ⟨R.ix, cc r0 2, rI r0 3, ?_, R.l.1, Int.le_trans R.l.2 (by omega)⟩
  show (s.E[(rI r0 1).toNat]?).getD [] = _
  rw [R.ent]; rfl
theorem filt_M {n : Nat} {s : BS} (h : Inv n s) {m : Int} : (s.A.map (pick2 1)).filter (fun r => !(expM (.t s.E) s.T m r)) = (s.A.filter fun r => !(expd m s.T (rI r 3))).map (pick2 1) := by
  rw [List.filter_map]
  congr 1
  refine List.filter_congr fun r hr => ?_
  have R := h.A r hr
  show (!(expd m s.T (rI ((s.E[(rI r 1).toNat]?).getD []) 2))) = _
  rw [R.ent]; rfl
theorem last_1 {l : List Row} {a c : Dv} {y : Row} (hy : y = [a, .b true, c]) : (l ++ [[a, .b false, .i 0]]).set l.length [cc (row (.t (l ++ [[a, .b false, .i 0]])) l.length) 0, .b true, c] = l ++ [y] := by
  have := set_last (l := l) (x := [a, .b false, .i 0]) (y := [cc (row (.t (l ++ [[a, .b false, .i 0]])) l.length) 0, .b true, c])
  rw [Int.toNat_natCast] at this
  rw [this, row_t, List.getElem?_append_right (Nat.le_refl _), Nat.sub_self, hy]
  rfl
theorem ent_row {s : BS} {r : Row} (R : RowOk s r) : row (.t s.E) (cc r 1).I.toNat = [cc r 2, .b true, .i (rI r 3)] := by
  show (s.E[(rI r 1).toNat]?).getD [] = _
  rw [R.ent]; rfl
theorem set_row {s : BS} {r : Row} (R : RowOk s r) (y : Row) : row (.t (s.E.set (cc r 1).I.toNat y)) (cc r 1).I.toNat = y := by
  show ((s.E.set (rI r 1).toNat y)[(rI r 1).toNat]?).getD [] = y
  rw [get_set' R.ent]; rfl
theorem mget_key {q : KQ} {a b : Dv} (h : q.eq a b = true) : ∀ {l : List Row}, mget q l a = mget q l b
  | [] => rfl
  | x :: l => by rw [mget_cons, mget_cons, mget_key h, eq_comm', eq_trans' (c := hd x) h, eq_comm']
theorem mput_id {q : KQ} {r : Row} : ∀ {l : List Row}, mget q l (hd r) = some r → mput q l r = l
  | [], h => by cases h
  | x :: l, h => by
    rw [mget_cons] at h
    rw [mput_cons]
    cases hb : q.eq (hd x) (hd r) with
    | true => rw [hb] at h; simp only [cond_true, Option.some.injEq] at h; rw [h]; rfl
    | false => rw [hb] at h; rw [cond_false, mput_id h]
theorem live_M {l : List Row} {k : Dv} {r : Row} (h : mget .s l k = some r) (x y z : Dv) : (mput .s l [cc r 0, cc r 1, x, y, z]).map (pick2 1) = l.map (pick2 1) := by
  have h2 : mget .s l (hd r) = some r := by rw [mget_key (mget_mem h).2]; exact h
  rw [← mput_map hd_pick2]
  show mput .s (l.map (pick2 1)) (pick2 1 r) = _
  exact mput_id (by rw [mget_map hd_pick2, hd_pick2, h2]; rfl)
theorem pick2_1 {j : Nat} {r : Row} : cc (pick2 j r) 1 = cc r j := id rfl
section
variable {o : Env} {r : Nat}
theorem bk1_all (hu : o.uf = UF) (hr : o.v 2021 = .i r) (hle : r ≤ (o.v 7302).T.length) (hlen : (o.v 7302).T.length ≤ 400) (hg : good (o.v 7302) = true)
    (hi : 0 ≤ (o.v 7300).I ∧ (o.v 7300).I ≤ 9007199254740992) (hm : 0 ≤ (o.v 7301).I ∧ (o.v 7301).I ≤ 9007199254740992) : AllL o bk1L := by
  have hinv := inv_N hi hm hg r hle
  have hT := hinv.T
  have hT2 : (stN (o.v 7300) (o.v 7301).I (o.v 7302) r).T ≤ 450359962737049600 := by omega
  have hans : r < (o.v 7302).T.length → row (.t (answers (o.v 7300) (o.v 7301).I (o.v 7302))) r = an1 (o.v 7301).I (stN (o.v 7300) (o.v 7301).I (o.v 7302) r) (row (o.v 7302) r) := answers_at
  have hop := fun h => good_op hg (n := r) h
  have hst : stN (o.v 7300) (o.v 7301).I (o.v 7302) (r + 1) = st1 (o.v 7300) (o.v 7301).I (stN (o.v 7300) (o.v 7301).I (o.v 7302) r) (row (o.v 7302) r) := rfl
  rcases Nat.lt_or_ge r (o.v 7302).T.length with hlt | hge
  · replace hans := hans hlt
    replace hop := hop hlt
    generalize hs : stN (o.v 7300) (o.v 7301).I (o.v 7302) r = s at *
    generalize hopd : row (o.v 7302) r = op at *
    have hgc := filt_M hinv (m := (o.v 7301).I)
    have hgm := dec_iff.2 (good_M hinv hT2 hm)
    have hv0 : vis (.i 0) = [] := rfl
    simp only [bk1L, allL_cons, allL_nil, and_true]
    cases hf : mget .s s.A (cc op 1) with
    | none =>
      have hn : ¬ 0 ≤ mfindI .s (cc op 1) (s.A.map (pick2 1)) := by rw [mf_none, mget_map hd_pick2, hf]; rfl
      and_intros
      all_goals intro h
      all_goals simp only [hold_cons_iff, hold_nil_iff, allT_cons, allT_nil, ob_e, ob_t, dB_lt, dB_le, dB_ieq, dB_beq, dB_not, dB_bl, dI_il, dI_sub, dI_add, dI_mul, dI_tlen, dI_mx, dI_mn, d_cell, dI_mf, d_mf, d_uf, d_cel, d_v, d_il, d_bl, d_add, d_mul, d_mn, d_tlen, d_tset, d_tcat, dT_md, dT_mp, dT_tset, dT_cat, dT_take, hu, UF_60, UF_61, UF_62, UF_63, UF_65, UF_70, UF_71, UF_72, S_pk, ar_0, ar_1, ar_2, ar_3, ar_4, hr, hs, hst, hopd, T_t, T_i, I_i, B_b, T_cel, row_cel, row_i, toNat_succ, Int.toNat_natCast, cast_lt, cast_le, decide_eq_true_eq, decide_eq_false_iff_not, beq_iff_eq, beq_eq_false_iff_ne, List.head?_nil, List.head?_cons, Option.getD_none, Option.getD_some, List.headD_cons, List.tail_cons, cc_0, cc_1, cc_2, false_and, and_false, not_false_eq_true, not_true_eq_false, false_implies, implies_true, and_true, true_and, hlt, Bool.true_eq_false, Bool.false_eq_true, hn, hans, hgm, hv0, cur_0, hgc, mdel_map hd_pick2] at h ⊢
      all_goals simp only [st1, an1, rI, hf, h, Int.reduceEq, if_true, if_false, or_false, or_true, false_or, true_or, cc_0, cc_1, B_b, I_i, freshS, last_1 rfl, and_true, true_and, or_self, if_neg, not_false_eq_true]
      · exact mput_map (r := [cc op 1, .i s.E.length, o.v 7300, .i s.T, cc op 1]) hd_pick2
      · have hc := hop.c h.1
        have hc1 : rI op 2 = (cc op 2).I := rfl
        refine ⟨?_, ?_, ?_⟩ <;> repeat' split
        all_goals omega
    | some r0 =>
      obtain ⟨hr0m, hr0k⟩ := mget_mem hf
      have R := hinv.A r0 hr0m
      have hfm : mget .s (s.A.map (pick2 1)) (cc op 1) = some (pick2 1 r0) := by rw [mget_map hd_pick2, hf]; rfl
      have hn : 0 ≤ mfindI .s (cc op 1) (s.A.map (pick2 1)) := mf_nn.2 ⟨_, hfm⟩
      have hrow := row_mf hfm
      have hent := ent_row R
      have hset := fun y => set_row R y
      have hix : 0 ≤ (cc r0 1).I := R.ix
      have hw := R.w
      have hl := R.l
      have ho := hop.t
      have hw1 : (cc r0 2).I = rI r0 2 := rfl
      have hl1 : (cc r0 3).I = rI r0 3 := rfl
      have ho1 : (cc op 2).I = rI op 2 := rfl
      have ho0 : (cc op 0).I = rI op 0 := rfl
      have hix1 : (cc r0 1).I = rI r0 1 := rfl
      and_intros
      all_goals intro h
      all_goals simp only [hold_cons_iff, hold_nil_iff, allT_cons, allT_nil, ob_e, ob_t, dB_lt, dB_le, dB_ieq, dB_beq, dB_not, dB_bl, dI_il, dI_sub, dI_add, dI_mul, dI_tlen, dI_mx, dI_mn, d_cell, dI_mf, d_mf, d_uf, d_cel, d_v, d_il, d_bl, d_add, d_mul, d_mn, d_tlen, d_tset, d_tcat, dT_md, dT_mp, dT_tset, dT_cat, dT_take, hu, UF_60, UF_61, UF_62, UF_63, UF_65, UF_70, UF_71, UF_72, S_pk, ar_0, ar_1, ar_2, ar_3, ar_4, hr, hs, hst, hopd, T_t, T_i, I_i, B_b, T_cel, row_cel, row_i, toNat_succ, Int.toNat_natCast, cast_lt, cast_le, decide_eq_true_eq, decide_eq_false_iff_not, beq_iff_eq, beq_eq_false_iff_ne, List.head?_nil, List.head?_cons, Option.getD_none, Option.getD_some, List.headD_cons, List.tail_cons, cc_0, cc_1, cc_2, false_and, and_false, not_false_eq_true, not_true_eq_false, false_implies, implies_true, and_true, true_and, hlt, Bool.true_eq_false, Bool.false_eq_true, hn, hrow, hent, hset, hix, pick2_1, hw1, hl1, ho0, ho1, hans, hgm, hv0, cur_0, hgc, mdel_map hd_pick2] at h ⊢
      all_goals simp only [st1, an1, expd, wNew, hf, h, hix1, set_set', decide_true, decide_false, Bool.not_true, Bool.not_false, Bool.true_and, Bool.false_and, Bool.false_eq_true, Int.reduceEq, if_true, if_false, or_false, or_true, false_or, true_or, cc_0, cc_1, B_b, I_i, freshS, liveS, last_1 rfl, and_true, true_and, or_self, if_neg, not_false_eq_true]
      all_goals try simp only [live_M hf]
      all_goals first
        | omega
        | exact ⟨by omega, mput_map (r := [cc op 1, .i s.E.length, o.v 7300, .i s.T, cc op 1]) hd_pick2⟩
        | exact ⟨by omega, by omega, by omega, trivial⟩
        | (have hc := hop.c h.1
           refine ⟨?_, ?_, ?_⟩ <;> repeat' split
           all_goals omega)
  · have hge' : ¬ r < (o.v 7302).T.length := by omega
    have hre : r = (o.v 7302).T.length := by omega
    simp only [bk1L, allL_cons, allL_nil, and_true]
    and_intros
    all_goals intro h
    all_goals simp only [hold_cons_iff, hold_nil_iff, allT_cons, allT_nil, ob_e, ob_t, dB_lt, dB_le, dB_ieq, dB_beq, dB_not, dB_bl, dI_il, dI_sub, dI_add, dI_mul, dI_tlen, dI_mx, dI_mn, d_cell, dI_mf, d_mf, d_uf, d_cel, d_v, d_il, d_bl, d_add, d_mul, d_mn, d_tlen, d_tset, d_tcat, dT_md, dT_mp, dT_tset, dT_cat, dT_take, hu, UF_60, UF_61, UF_62, UF_63, UF_65, UF_70, UF_71, UF_72, S_pk, ar_0, ar_1, ar_2, ar_3, ar_4, hr, T_t, T_i, I_i, B_b, T_cel, row_cel, row_i, toNat_succ, Int.toNat_natCast, cast_lt, cast_le, decide_eq_true_eq, decide_eq_false_iff_not, beq_iff_eq, beq_eq_false_iff_ne, List.head?_nil, List.head?_cons, Option.getD_none, Option.getD_some, List.headD_cons, List.tail_cons, cc_0, cc_1, cc_2, false_and, and_false, not_false_eq_true, not_true_eq_false, false_implies, implies_true, and_true, true_and, hge', Bool.true_eq_false, Bool.false_eq_true] at h ⊢
    refine ⟨by rw [answers_len]; omega, List.take_of_length_le (by rw [answers_len]; omega), by rw [hre]⟩
theorem bk0_all (h0 : r = 0) (hu : o.uf = UF) (hr : o.v 2021 = .i r) (hle : r ≤ (o.v 7302).T.length) (hlen : (o.v 7302).T.length ≤ 400) (hg : good (o.v 7302) = true)
    (hi : 0 ≤ (o.v 7300).I ∧ (o.v 7300).I ≤ 9007199254740992) (hm : 0 ≤ (o.v 7301).I ∧ (o.v 7301).I ≤ 9007199254740992) : AllL o bk0L := by
  have hinv := inv_N hi hm hg r hle
  have hT := hinv.T
  have hT2 : (stN (o.v 7300) (o.v 7301).I (o.v 7302) r).T ≤ 450359962737049600 := by omega
  have hans : r < (o.v 7302).T.length → row (.t (answers (o.v 7300) (o.v 7301).I (o.v 7302))) r = an1 (o.v 7301).I (stN (o.v 7300) (o.v 7301).I (o.v 7302) r) (row (o.v 7302) r) := answers_at
  have hop := fun h => good_op hg (n := r) h
  have hst : stN (o.v 7300) (o.v 7301).I (o.v 7302) (r + 1) = st1 (o.v 7300) (o.v 7301).I (stN (o.v 7300) (o.v 7301).I (o.v 7302) r) (row (o.v 7302) r) := rfl
  rcases Nat.lt_or_ge r (o.v 7302).T.length with hlt | hge
  · replace hans := hans hlt
    have hans0 : row (.t (answers (o.v 7300) (o.v 7301).I (o.v 7302))) (Int.toNat 0) = an1 (o.v 7301).I (stN (o.v 7300) (o.v 7301).I (o.v 7302) r) (row (o.v 7302) r) := by rw [← hans, h0]; rfl
    replace hop := hop hlt
    generalize hs : stN (o.v 7300) (o.v 7301).I (o.v 7302) r = s at *
    generalize hopd : row (o.v 7302) r = op at *
    have hgc := filt_M hinv (m := (o.v 7301).I)
    have hgm := dec_iff.2 (good_M hinv hT2 hm)
    have hv0 : vis (.i 0) = [] := rfl
    simp only [bk0L, allL_cons, allL_nil, and_true]
    cases hf : mget .s s.A (cc op 1) with
    | none =>
      have hn : ¬ 0 ≤ mfindI .s (cc op 1) (s.A.map (pick2 1)) := by rw [mf_none, mget_map hd_pick2, hf]; rfl
      and_intros
      all_goals intro h
      all_goals simp only [hold_cons_iff, hold_nil_iff, allT_cons, allT_nil, ob_e, ob_t, dB_lt, dB_le, dB_ieq, dB_beq, dB_not, dB_bl, dI_il, dI_sub, dI_add, dI_mul, dI_tlen, dI_mx, dI_mn, d_cell, dI_mf, d_mf, d_uf, d_cel, d_v, d_il, d_bl, d_add, d_mul, d_mn, d_tlen, d_tset, d_tcat, dT_md, dT_mp, dT_tset, dT_cat, dT_take, hu, UF_60, UF_61, UF_62, UF_63, UF_65, UF_70, UF_71, UF_72, S_pk, ar_0, ar_1, ar_2, ar_3, ar_4, hr, hs, hst, hopd, T_t, T_i, I_i, B_b, T_cel, row_cel, row_i, toNat_succ, Int.toNat_natCast, cast_lt, cast_le, decide_eq_true_eq, decide_eq_false_iff_not, beq_iff_eq, beq_eq_false_iff_ne, List.head?_nil, List.head?_cons, Option.getD_none, Option.getD_some, List.headD_cons, List.tail_cons, cc_0, cc_1, cc_2, false_and, and_false, not_false_eq_true, not_true_eq_false, false_implies, implies_true, and_true, true_and, hlt, Bool.true_eq_false, Bool.false_eq_true, hn, hans, hans0, hgm, hv0, cur_0, hgc, mdel_map hd_pick2] at h ⊢
      all_goals simp only [st1, an1, rI, hf, h, Int.reduceEq, if_true, if_false, or_false, or_true, false_or, true_or, cc_0, cc_1, B_b, I_i, freshS, last_1 rfl, and_true, true_and, or_self, if_neg, not_false_eq_true]
      · exact mput_map (r := [cc op 1, .i s.E.length, o.v 7300, .i s.T, cc op 1]) hd_pick2
      · have hc := hop.c h.1
        have hc1 : rI op 2 = (cc op 2).I := rfl
        refine ⟨?_, ?_, ?_⟩ <;> repeat' split
        all_goals omega
    | some r0 =>
      obtain ⟨hr0m, hr0k⟩ := mget_mem hf
      have R := hinv.A r0 hr0m
      have hfm : mget .s (s.A.map (pick2 1)) (cc op 1) = some (pick2 1 r0) := by rw [mget_map hd_pick2, hf]; rfl
      have hn : 0 ≤ mfindI .s (cc op 1) (s.A.map (pick2 1)) := mf_nn.2 ⟨_, hfm⟩
      have hrow := row_mf hfm
      have hent := ent_row R
      have hset := fun y => set_row R y
      have hix : 0 ≤ (cc r0 1).I := R.ix
      have hw := R.w
      have hl := R.l
      have ho := hop.t
      have hw1 : (cc r0 2).I = rI r0 2 := rfl
      have hl1 : (cc r0 3).I = rI r0 3 := rfl
      have ho1 : (cc op 2).I = rI op 2 := rfl
      have ho0 : (cc op 0).I = rI op 0 := rfl
      have hix1 : (cc r0 1).I = rI r0 1 := rfl
      and_intros
      all_goals intro h
      all_goals simp only [hold_cons_iff, hold_nil_iff, allT_cons, allT_nil, ob_e, ob_t, dB_lt, dB_le, dB_ieq, dB_beq, dB_not, dB_bl, dI_il, dI_sub, dI_add, dI_mul, dI_tlen, dI_mx, dI_mn, d_cell, dI_mf, d_mf, d_uf, d_cel, d_v, d_il, d_bl, d_add, d_mul, d_mn, d_tlen, d_tset, d_tcat, dT_md, dT_mp, dT_tset, dT_cat, dT_take, hu, UF_60, UF_61, UF_62, UF_63, UF_65, UF_70, UF_71, UF_72, S_pk, ar_0, ar_1, ar_2, ar_3, ar_4, hr, hs, hst, hopd, T_t, T_i, I_i, B_b, T_cel, row_cel, row_i, toNat_succ, Int.toNat_natCast, cast_lt, cast_le, decide_eq_true_eq, decide_eq_false_iff_not, beq_iff_eq, beq_eq_false_iff_ne, List.head?_nil, List.head?_cons, Option.getD_none, Option.getD_some, List.headD_cons, List.tail_cons, cc_0, cc_1, cc_2, false_and, and_false, not_false_eq_true, not_true_eq_false, false_implies, implies_true, and_true, true_and, hlt, Bool.true_eq_false, Bool.false_eq_true, hn, hrow, hent, hset, hix, pick2_1, hw1, hl1, ho0, ho1, hans, hans0, hgm, hv0, cur_0, hgc, mdel_map hd_pick2] at h ⊢
      all_goals simp only [st1, an1, expd, wNew, hf, h, hix1, set_set', decide_true, decide_false, Bool.not_true, Bool.not_false, Bool.true_and, Bool.false_and, Bool.false_eq_true, Int.reduceEq, if_true, if_false, or_false, or_true, false_or, true_or, cc_0, cc_1, B_b, I_i, freshS, liveS, last_1 rfl, and_true, true_and, or_self, if_neg, not_false_eq_true]
      all_goals try simp only [live_M hf]
      all_goals first
        | omega
        | exact ⟨by omega, mput_map (r := [cc op 1, .i s.E.length, o.v 7300, .i s.T, cc op 1]) hd_pick2⟩
        | exact ⟨by omega, by omega, by omega, trivial⟩
        | (have hc := hop.c h.1
           refine ⟨?_, ?_, ?_⟩ <;> repeat' split
           all_goals omega)
  · have hge' : ¬ r < (o.v 7302).T.length := by omega
    have hre : r = (o.v 7302).T.length := by omega
    simp only [bk0L, allL_cons, allL_nil, and_true]
    and_intros
    all_goals intro h
    all_goals simp only [hold_cons_iff, hold_nil_iff, allT_cons, allT_nil, ob_e, ob_t, dB_lt, dB_le, dB_ieq, dB_beq, dB_not, dB_bl, dI_il, dI_sub, dI_add, dI_mul, dI_tlen, dI_mx, dI_mn, d_cell, dI_mf, d_mf, d_uf, d_cel, d_v, d_il, d_bl, d_add, d_mul, d_mn, d_tlen, d_tset, d_tcat, dT_md, dT_mp, dT_tset, dT_cat, dT_take, hu, UF_60, UF_61, UF_62, UF_63, UF_65, UF_70, UF_71, UF_72, S_pk, ar_0, ar_1, ar_2, ar_3, ar_4, hr, T_t, T_i, I_i, B_b, T_cel, row_cel, row_i, toNat_succ, Int.toNat_natCast, cast_lt, cast_le, decide_eq_true_eq, decide_eq_false_iff_not, beq_iff_eq, beq_eq_false_iff_ne, List.head?_nil, List.head?_cons, Option.getD_none, Option.getD_some, List.headD_cons, List.tail_cons, cc_0, cc_1, cc_2, false_and, and_false, not_false_eq_true, not_true_eq_false, false_implies, implies_true, and_true, true_and, hge', Bool.true_eq_false, Bool.false_eq_true] at h ⊢
    have hnil : answers (o.v 7300) (o.v 7301).I (o.v 7302) = [] := List.length_eq_zero_iff.1 (by rw [answers_len]; omega)
    refine ⟨hnil.symm, by rw [hre]⟩
end
end Go.Proofs.Ytagpchabkplggaa.sxBackoff

namespace Go.Proofs.Ytagpchabkplggaa.sxBackoff
open Go.Sx Go.RowKit
set_option linter.unusedVariables false
set_option linter.unusedSimpArgs false
set_option maxRecDepth 100000

theorem plain : Plain Try.prog := plain_of (by kernel_rfl)
theorem mixed : Try.prog.follows .mixedOrders = true := by kernel_rfl
theorem fits22_obl : fits22.obl Try.prog 0 = some fits22L := by kernel_rfl
theorem boGood_obl : boGood.obl Try.prog 0 = some boGoodL := by kernel_rfl
theorem gc0_obl : LoopY.oblR Try.prog gcY gR 0 false = some gc0L := by kernel_rfl
theorem gc1_obl : LoopY.oblR Try.prog gcY gR 0 true = some gc1L := by kernel_rfl
theorem sp0_obl : LoopY.oblR Try.prog spY sR 0 false = some sp0L := by kernel_rfl
theorem sp1_obl : LoopY.oblR Try.prog spY sR 0 true = some sp1L := by kernel_rfl
theorem bk0_obl : bkY.obl Try.prog 0 = some bk0L := by kernel_rfl
theorem bk1_obl : bkY.obl Try.prog 1 = some bk1L := by kernel_rfl
theorem bkFn_obl : bkFn.obl Try.prog = some bkFnL := by kernel_rfl
theorem live_says : shutB Try.prog 14 400 80 true = true := by kernel_rfl
theorem m_of {m : Nat} {k : Nat} (h : Nat.beq m k = true) : m = k := Nat.eq_of_beq_eq_true h
section
variable {o : Env}
theorem fits22_ok (hu : o.uf = UF) : LpOk Try.prog o 16 4 fits22.lpP :=
  guard_ok plain mixed (D := fits22) rfl (by kernel_rfl) (by decide) rfl fits22_obl (B := fun e => B1 (e.v 7000)) (fun _ _ _ => rfl) (fun e he => by rw [he.uf, hu]; rfl) (fun _ _ _ _ _ => extOk_none) (fun e i u he hi hn => fits22_all (he.uf.trans hu) hi hn)
theorem boGood_ok (hu : o.uf = UF) : LpOk Try.prog o 17 4 boGood.lpP :=
  guard_ok plain mixed (D := boGood) rfl (by kernel_rfl) (by decide) rfl boGood_obl (B := fun e => B3 (e.v 7001)) (fun _ _ _ => rfl) (fun e he => by rw [he.uf, hu]; rfl) (fun _ _ _ _ _ => extOk_none) (fun e i u he hi hn => boGood_all (he.uf.trans hu) hi hn)
theorem gc_ok (hu : o.uf = UF) : LpOk Try.prog o 33 4 gcY.lpP := by
  refine LoopY.lp_okR plain mixed (D := gcY) (R := gR) (by kernel_rfl) (fun e' he μ0 h0 hent => ?_) (fun _ => rfl)
  obtain rfl := m_of h0
  have hu' := he.uf.trans hu
  have hg : GoodM (e'.v 7200).T (e'.v 7201) (e'.v 7202).I (e'.v 7203).I := by
    have h1 : Facts.Hold e' [(.uf 71 gA, true)] := hent
    have h2 := (hold_cons_iff.1 h1).1
    have h3 : (e'.uf 71 (gA.den e')).B = true := h2
    rw [hu'] at h3
    exact dec_iff.1 h3
  refine ⟨⟨fun _ vs μ => μ = 0, fun _ b => cond b gc1L gc0L, fun _ _ _ _ => extOk_none, fun u vs μ hm b => ?_, fun u vs μ e hm he0 hO x hx hfx => ?_, fun u vs μ e k hm he0 hC x hx hfx => ?_, fun u vs μ y hm => ?_, fun u vs μ μ' e k hm he0 hC ht _ => ⟨0, rfl, ?_⟩, fun u _ => ⟨0, rfl, SameH.refl _⟩⟩⟩
  · rw [hm]; cases b
    · exact gc0_obl
    · exact gc1_obl
  · rw [hm] at he0
    injection he0 with he0
    subst he0
    refine allL_mem (gc0_all (o := gcY.envR gR e' u (LoopY.visD vs) (e'.v gR.kv)) (vs := vs) hu' rfl fun r hr => ?_) x hx hfx
    obtain ⟨k, hk, h2⟩ := hO r (by
      show r ∈ ((gcY.envR gR e' u (LoopY.visD vs) (e'.v gR.kv)).uf 70 _).T
      rw [show (gcY.envR gR e' u (LoopY.visD vs) (e'.v gR.kv)).uf = UF from hu', UF_70]
      show r ∈ cur .s _ _ (vis (LoopY.visD vs))
      rw [vis_D]; exact hr)
    exact List.any_eq_true.2 ⟨k, hk, by rw [eq_comm']; exact dv_s.1 h2⟩
  · rw [hm] at he0
    injection he0 with he0
    subst he0
    obtain ⟨⟨r, hr, hk⟩, _⟩ := hC
    refine allL_mem (gc1_all (o := gcY.envR gR e' u (LoopY.visD vs) k) (vs := vs) hu' rfl rfl hg ⟨r, ?_, hk⟩) x hx hfx
    have : r ∈ ((gcY.envR gR e' u (LoopY.visD vs) k).uf 70 (gB.den (gcY.envR gR e' u (LoopY.visD vs) k))).T := hr
    rw [show (gcY.envR gR e' u (LoopY.visD vs) k).uf = UF from hu', UF_70] at this
    have this : r ∈ cur .s _ _ (vis (LoopY.visD vs)) := this
    rw [vis_D] at this; exact this
  · rw [hm]; exact hold_nil
  · rw [m_of ht]; exact SameH.refl _
theorem sp_ok (hu : o.uf = UF) : LpOk Try.prog o 19 20 spY.lpP := by
  refine LoopY.lp_okR plain mixed (D := spY) (R := sR) (by kernel_rfl) (fun e' he μ0 h0 hent => ?_) (fun _ => rfl)
  obtain rfl := m_of h0
  have hu' := he.uf.trans hu
  have hg : GoodW (e'.v 7400).T (e'.v 7401).T (e'.v 7402).I (e'.v 7403).I := by
    have h1 : Facts.Hold e' [(.uf 75 sA, true)] := hent
    have h2 := (hold_cons_iff.1 h1).1
    have h3 : (e'.uf 75 (sA.den e')).B = true := h2
    rw [hu'] at h3
    exact dec_iff.1 h3
  refine ⟨⟨fun _ vs μ => μ = 0, fun _ b => cond b sp1L sp0L, fun _ _ _ _ => extOk_none, fun u vs μ hm b => ?_, fun u vs μ e hm he0 hO x hx hfx => ?_, fun u vs μ e k hm he0 hC x hx hfx => ?_, fun u vs μ y hm => ?_, fun u vs μ μ' e k hm he0 hC ht _ => ⟨0, rfl, ?_⟩, fun u _ => ⟨0, rfl, SameH.refl _⟩⟩⟩
  · rw [hm]; cases b
    · exact sp0_obl
    · exact sp1_obl
  · rw [hm] at he0
    injection he0 with he0
    subst he0
    refine allL_mem (sp0_all (o := spY.envR sR e' u (LoopY.visD vs) (e'.v sR.kv)) (vs := vs) hu' rfl fun r hr => ?_) x hx hfx
    obtain ⟨k, hk, h2⟩ := hO r (by
      show r ∈ ((spY.envR sR e' u (LoopY.visD vs) (e'.v sR.kv)).uf 73 _).T
      rw [show (spY.envR sR e' u (LoopY.visD vs) (e'.v sR.kv)).uf = UF from hu', UF_73]
      show r ∈ cur .s _ _ (vis (LoopY.visD vs))
      rw [vis_D]; exact hr)
    exact List.any_eq_true.2 ⟨k, hk, by rw [eq_comm']; exact dv_s.1 h2⟩
  · rw [hm] at he0
    injection he0 with he0
    subst he0
    obtain ⟨⟨r, hr, hk⟩, _⟩ := hC
    refine allL_mem (sp1_all (o := spY.envR sR e' u (LoopY.visD vs) k) (vs := vs) hu' rfl rfl hg ⟨r, ?_, hk⟩) x hx hfx
    have : r ∈ ((spY.envR sR e' u (LoopY.visD vs) k).uf 73 (sB.den (spY.envR sR e' u (LoopY.visD vs) k))).T := hr
    rw [show (spY.envR sR e' u (LoopY.visD vs) k).uf = UF from hu', UF_73] at this
    have this : r ∈ cur .s _ _ (vis (LoopY.visD vs)) := this
    rw [vis_D] at this; exact this
  · rw [hm]; exact hold_nil
  · rw [m_of ht]; exact SameH.refl _
theorem bkC_ok (hu : o.uf = UF) (A : Anchor) : ExtOk Try.prog o A (bkC.x.toExt Try.prog) := by
  refine Ctr.ok (by kernel_rfl) (fun x hx => by cases hx) (fun x hx => ?_) A
  rcases List.mem_cons.1 hx with rfl | hx
  · exact gc_ok hu
  · cases hx
theorem bk_ent {e : Env} (hu : e.uf = UF) (h : (bkY.ent 0).Hold e) : (e.v 7302).T.length ≤ 400 ∧ good (e.v 7302) = true ∧ (0 ≤ (e.v 7300).I ∧ (e.v 7300).I ≤ 9007199254740992) ∧ (0 ≤ (e.v 7301).I ∧ (e.v 7301).I ≤ 9007199254740992) := by
  simp only [bkY, bkF, bG, pk, List.foldr, hold_cons_iff, hold_nil_iff, dB_le, dI_il, dI_tlen, d_v, d_uf, d_cel, hu, UF_64, ar_2, B_b, decide_eq_true_eq, and_true] at h
  obtain ⟨h1, h2, h3, h4, h5, h6⟩ := h
  exact ⟨by omega, h2, ⟨h3, h4⟩, h5, h6⟩
theorem bk_ok (hu : o.uf = UF) : LpOk Try.prog o 15 5 bkY.lpP := by
  refine two_ok plain mixed (D := bkY) (by kernel_rfl) (fun e => (e.v 7302).T.length) bk0_obl bk1_obl (fun m h => m_of h) (fun m h => m_of h) (fun _ => rfl) (fun e i u A he h hi => bkC_ok (o := bkY.env e u i) (he.uf.trans hu) A)
    (fun e he h u => ?_) (fun e he h i u h0 hi => ?_) (fun e he h u => ?_) (fun e he h i u h0 hi => ?_) (fun e he h i u hi hl => ?_)
  · obtain ⟨h1, h2, h3, h4⟩ := bk_ent (he.uf.trans hu) h
    exact bk0_all (o := bkY.env e u 0) (r := 0) rfl (he.uf.trans hu) rfl (Nat.zero_le _) h1 h2 h3 h4
  · obtain ⟨h1, h2, h3, h4⟩ := bk_ent (he.uf.trans hu) h
    exact bk1_all (o := bkY.env e u i) (r := i) (he.uf.trans hu) rfl hi h1 h2 h3 h4
  · have hu' := he.uf.trans hu
    simp only [bkY, bkF, bG, r21, pk, List.foldr, List.cons_append, List.nil_append, hold_cons_iff, hold_nil_iff, dB_le, dB_lt, dB_ieq, dI_il, dI_tlen, d_v, d_uf, d_cel, hu', UF_64, ar_2, B_b, LoopY.env, if_true, if_false, Nat.reduceEqDiff, I_i, decide_eq_true_eq, beq_iff_eq, and_true] at h ⊢
    obtain ⟨h1, h2, h3, h4, h5, h6⟩ := h
    refine ⟨by omega, by omega, by omega, by omega, h2, by omega⟩
  · have hu' := he.uf.trans hu
    simp only [bkY, bkF, bG, r21, pk, List.foldr, List.cons_append, List.nil_append, hold_cons_iff, hold_nil_iff, dB_le, dB_lt, dB_ieq, dI_il, dI_tlen, d_v, d_uf, d_cel, hu', UF_64, ar_2, B_b, LoopY.env, if_true, if_false, Nat.reduceEqDiff, I_i, decide_eq_true_eq, beq_iff_eq, and_true] at h ⊢
    obtain ⟨h1, h2, h3, h4, h5, h6⟩ := h
    refine ⟨by omega, by omega, by omega, by omega, h2, by omega⟩
  · simp only [bkY, r21, dB_lt, dI_tlen, d_v, LoopY.env, if_true, if_false, Nat.reduceEqDiff, I_i, decide_eq_true_eq] at hl
    omega
theorem bkFn_all {e : Env} (hu : e.uf = UF) : AllL e bkFnL := by
  simp only [bkFnL, allL_cons, allL_nil, and_true]
  intro _
  simp only [allT_cons, allT_nil, ob_e, ob_t, dB_ieq, dI_il, d_il, d_uf, d_cel, d_v, hu, UF_60, UF_61, UF_62, S_pk, I_i, T_i, T_t, Int.toNat_zero, and_true]
  exact ⟨rfl, rfl, rfl⟩
theorem bkFnC_ok (hu : o.uf = UF) (A : Anchor) : ExtOk Try.prog o A (bkFn.X.toExt Try.prog) := by
  refine Ctr.ok (c := ⟨[], [(15, 5, bkY.lpP)]⟩) (by kernel_rfl) (fun x hx => by cases hx) (fun x hx => ?_) A
  rcases List.mem_cons.1 hx with rfl | hx
  · exact bk_ok hu
  · cases hx
theorem bkFn_ok (hu : o.uf = UF) : FnOk Try.prog o 15 bkFn.funP :=
  FunY.fun_ok plain mixed (D := bkFn) bkFn_obl (fun e' A hl => bkFnC_ok (hl.uf.trans hu) A) (fun e' hl h => bkFn_all (hl.uf.trans hu))
end
end Go.Proofs.Ytagpchabkplggaa.sxBackoff
