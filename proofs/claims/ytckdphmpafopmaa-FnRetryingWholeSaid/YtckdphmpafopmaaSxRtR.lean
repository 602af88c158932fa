/-
  THE LAW FnRetryingWhole (proved): however the watches between are broken, a client of a watcher that retries is sent each change once, in order. No conditions beside the law's own guards.
-/
import Derived.Test.YtckdphmpafopmaaSxRtQa
import Derived.Test.YtckdphmpafopmaaSxRtQb
import Derived.Test.YtckdphmpafopmaaSxRtQc
import Derived.Test.YtckdphmpafopmaaSxRtQd
import Derived.Test.YtckdphmpafopmaaSxRtW
import Derived.Test.YtckdphmpafopmaaSxMLoopH
namespace Go.Proofs.Ytckdphmpafopmaa.sxRetrying
open Go.Sx Go.RowKit
set_option linter.unusedVariables false
set_option linter.unusedSimpArgs false
set_option maxRecDepth 100000

section
variable {o : Env}
theorem fits18_ok (hu : o.uf = UF) : LpOk Try.prog o 12 4 fits18.lpP :=
  guard_ok plain mixed (D := fits18) rfl (by kernel_rfl) (by decide) rfl fits18_obl (B := fun e => B18 (e.v 7100)) (fun _ _ _ => rfl) (fun e he => by rw [he.uf, hu]; rfl) (fun e i u A he => c1_ok (o := fits18.env e u i) (he.uf.trans hu) A) (fun e i u he hi hn => fits18_all (he.uf.trans hu) hi hn)
theorem nuY_ent {e : Env} (h : (nuY.ent 0).Hold e) : 0 ≤ (e.v 7102).I ∧ (e.v 7102).I ≤ 1000000000000000 := by
  simp only [nuY, hold_cons_iff, hold_nil_iff, dB_le, dI_il, d_v, decide_eq_true_eq, and_true] at h
  exact h
theorem nuY_ok (hu : o.uf = UF) : LpOk Try.prog o 15 2 nuY.lpP := by
  refine one_ok plain mixed (D := nuY) (by kernel_rfl) (fun e => nuN (e.v 7102).I) nuY_obl (fun m h => m_of h) (fun m h => m_of h) (fun _ => rfl) (fun _ _ _ _ _ _ _ => extOk_none)
    (fun e he h i u hi => nuY_all (he.uf.trans hu) (nuY_ent h).1 (nuY_ent h).2 hi) (fun e he h i u hi => ?_) (fun e he h i u hi hl => ?_)
  · have hu' := he.uf.trans hu
    obtain ⟨h0, h1⟩ := nuY_ent h
    have h2 := (nu_inv h0 i).1
    have h3 := nu_le h0 i
    have h4 := nu_stop h0 h1
    have h5 := @nu_size (e.v 7102).I i
    simp only [nuY, nuA, r21, pk, List.foldr, hold_cons_iff, hold_nil_iff, dB_le, dI_il, dI_size, d_v, d_uf, d_cel, d_il, LoopY.env, hu', UF_72, UF_73, ar_0, ar_1, if_true, if_false, Nat.reduceEqDiff, I_i, S_s, Int.toNat_natCast, decide_eq_true_eq, and_true]
    omega
  · have hu' := he.uf.trans hu
    simp only [nuY, nuA, r21, pk, List.foldr, dB_lt, d_uf, d_cel, d_v, d_il, LoopY.env, hu', UF_76, ar_0, if_true, if_false, Nat.reduceEqDiff, I_i, decide_eq_true_eq] at hl
    omega
def fKLm (m : Nat) : List (Facts × List Ob) := match m with | 0 => fKL0 | _ => fKL1
theorem fK_ok (hu : o.uf = UF) : LpOk Try.prog o 5 14 fK.lpP := by
  refine modes_ok plain mixed (D := fK) (L := fKL) (by kernel_rfl) (fun e => (e.v 7122).I.toNat)
    (fun e => 0 ≤ (e.v 7122).I ∧ (e.v 7122).I ≤ 3 ∧ ((e.v 7120).T.length : Int) ≤ 10000 ∧ 0 ≤ (e.v 7121).I)
    (fun e i m => (m = 0 ∧ i = 0 ∧ (e.v 7120).T = []) ∨ (m = 1 ∧ 0 < (e.v 7120).T.length + i)) (fun _ => by rename_i n; cases n <;> rfl) (fun e m he h0 h => ?_) (fun e i m g h => ?_) (fun _ _ _ _ _ _ _ => extOk_none) (fun e i u m he g hi h => ?_) (fun e i u m he g hi h => ?_) (fun e i u he g hi hl => ?_) (fun e i u m m' he g hi h ht hf => ?_)
  · have hm : m ≤ 1 := Nat.le_of_ble_eq_true h0
    rcases m with _ | _ | m
    all_goals try omega
    all_goals simp only [fK, List.cons_append, List.nil_append, hold_cons_iff, hold_nil_iff, dB_le, dB_lt, dB_ieq, dI_il, dI_tlen, d_v, decide_eq_true_eq, and_true] at h
    all_goals refine ⟨by omega, fun u _ => ?_⟩
    · left
      refine ⟨rfl, rfl, List.eq_nil_of_length_eq_zero (by omega)⟩
    · right
      exact ⟨rfl, by omega⟩
  · rcases h with ⟨rfl, _⟩ | ⟨rfl, _⟩
    · exact fK_obl0
    · exact fK_obl1
  · exact fK_all (he.uf.trans hu) m g.1 g.2.1 g.2.2.1 g.2.2.2 (by omega) (fun hm => by rcases h with h | h; exact h.2; omega) (fun hm => by rcases h with h | h; omega; exact h.2) (by rcases h with h | h <;> omega)
  · have hu' := he.uf.trans hu
    obtain ⟨g1, g2, g3, g4⟩ := g
    rcases h with ⟨rfl, rfl, hz⟩ | ⟨rfl, hz⟩
    all_goals simp only [fK, fA, r23, pk, List.foldr, List.cons_append, List.nil_append, hold_cons_iff, hold_nil_iff, dB_le, dB_lt, dB_ieq, dI_il, dI_tlen, d_v, d_uf, d_cel, d_il, LoopY.env, hu', UF_84, ar_0, ar_1, ar_2, T_t, fails_len, if_true, if_false, Nat.reduceEqDiff, I_i, Int.toNat_natCast, decide_eq_true_eq, and_true]
    all_goals omega
  · simp only [fK, r23, dB_lt, d_v, LoopY.env, if_true, if_false, Nat.reduceEqDiff, I_i, decide_eq_true_eq] at hl
    omega
  · right
    exact ⟨m_of ht, by omega⟩
theorem hK_ent {e : Env} (h : (hK.ent 0).Hold e) : ((e.v 7130).T.length : Int) ≤ 10010 ∧ ((e.v 7132).T.length : Int) ≤ 40 ∧ 0 ≤ (e.v 7133).I ∧ (e.v 7133).I ≤ ((e.v 7132).T.length : Int) ∧ 1 ≤ (e.v 7131).I ∧ (e.v 7131).I ≤ 1048576 ∧ 0 ≤ (e.v 7134).I := by
  simp only [hK, hold_cons_iff, hold_nil_iff, dB_le, dI_il, dI_tlen, d_v, decide_eq_true_eq, and_true] at h
  exact h
theorem n1_ok (hu : o.uf = UF) (A : Anchor) : ExtOk Try.prog o A (hK.X.toExt Try.prog) := by
  refine Ctr.ok (c := Ctr.mk [] [(15, 2, nuY.lpP)]) (by kernel_rfl) (fun x hx => by cases hx) (fun x hx => ?_) A
  rcases List.mem_cons.1 hx with rfl | hx
  · exact nuY_ok hu
  · cases hx
theorem hK_ok (hu : o.uf = UF) : LpOk Try.prog o 5 20 hK.lpP := by
  refine one_ok plain mixed (D := hK) (by kernel_rfl) (fun e => min (e.v 7134).I.toNat ((e.v 7132).T.length - (e.v 7133).I.toNat)) hK_obl (fun m h => m_of h) (fun m h => m_of h) (fun _ => rfl) (fun e i u A he _ _ => n1_ok (o := hK.env e u i) (he.uf.trans hu) A)
    (fun e he h i u hi => ?_) (fun e he h i u hi => ?_) (fun e he h i u hi hl => ?_)
  · obtain ⟨h1, h2, h3, h4, h5, h6, h7⟩ := hK_ent h
    exact hK_all (he.uf.trans hu) h5 h6 h3 h4 h2 h1 h7 (by omega) (by omega)
  · have hu' := he.uf.trans hu
    obtain ⟨h1, h2, h3, h4, h5, h6, h7⟩ := hK_ent h
    simp only [hK, hA, hN, r24, pk, List.foldr, hold_cons_iff, hold_nil_iff, dB_le, dB_lt, dI_il, dI_tlen, dI_add, dI_sub, dI_mn, d_v, d_uf, d_cel, d_il, LoopY.env, hu', UF_85, ar_0, ar_1, ar_2, ar_3, ar_4, T_t, sends_len, if_true, if_false, Nat.reduceEqDiff, I_i, Int.toNat_natCast, decide_eq_true_eq, and_true]
    split <;> omega
  · have hu' := he.uf.trans hu
    obtain ⟨h1, h2, h3, h4, h5, h6, h7⟩ := hK_ent h
    simp only [hK, hN, r24, dB_lt, dI_mn, dI_sub, dI_tlen, d_v, LoopY.env, if_true, if_false, Nat.reduceEqDiff, I_i, decide_eq_true_eq] at hl
    split at hl <;> omega
theorem iK_ent {e : Env} (h : (iK.ent 0).Hold e) : ((e.v 7140).T.length : Int) ≤ 10010 ∧ ((e.v 7142).T.length : Int) ≤ 40 ∧ 0 ≤ (e.v 7143).I ∧ (e.v 7143).I ≤ ((e.v 7142).T.length : Int) ∧ 1 ≤ (e.v 7141).I ∧ (e.v 7141).I ≤ 1048576 := by
  simp only [iK, hold_cons_iff, hold_nil_iff, dB_le, dI_il, dI_tlen, d_v, decide_eq_true_eq, and_true] at h
  exact h
theorem iK_ok (hu : o.uf = UF) : LpOk Try.prog o 5 35 iK.lpP := by
  refine one_ok plain mixed (D := iK) (by kernel_rfl) (fun e => (e.v 7142).T.length - (e.v 7143).I.toNat) iK_obl (fun m h => m_of h) (fun m h => m_of h) (fun _ => rfl) (fun e i u A he _ _ => n1_ok (o := iK.env e u i) (he.uf.trans hu) A)
    (fun e he h i u hi => ?_) (fun e he h i u hi => ?_) (fun e he h i u hi hl => ?_)
  · obtain ⟨h1, h2, h3, h4, h5, h6⟩ := iK_ent h
    exact iK_all (he.uf.trans hu) h5 h6 h3 h4 h2 h1 (by omega)
  · have hu' := he.uf.trans hu
    obtain ⟨h1, h2, h3, h4, h5, h6⟩ := iK_ent h
    simp only [iK, iA, iN, r25, pk, List.foldr, hold_cons_iff, hold_nil_iff, dB_le, dB_lt, dI_il, dI_tlen, dI_add, dI_sub, dI_mn, d_v, d_uf, d_cel, d_il, LoopY.env, hu', UF_85, ar_0, ar_1, ar_2, ar_3, ar_4, T_t, sends_len, if_true, if_false, Nat.reduceEqDiff, I_i, Int.toNat_natCast, decide_eq_true_eq, and_true]
    omega
  · obtain ⟨h1, h2, h3, h4, h5, h6⟩ := iK_ent h
    simp only [iK, iN, r25, dB_lt, dI_sub, dI_tlen, d_v, LoopY.env, if_true, if_false, Nat.reduceEqDiff, I_i, decide_eq_true_eq] at hl
    omega
theorem obY_ent {e : Env} (h : (obY.ent 0).Hold e) : ((e.v 7112).T.length : Int) ≤ 20 ∧ ((e.v 7111).T.length : Int) ≤ 40 ∧ 1 ≤ (e.v 7110).I ∧ (e.v 7110).I ≤ 1048576 := by
  simp only [obY, hold_cons_iff, hold_nil_iff, dB_le, dI_il, dI_tlen, d_v, decide_eq_true_eq, and_true] at h
  exact h
theorem cOb_ok (hu : o.uf = UF) (A : Anchor) : ExtOk Try.prog o A (obY.X.toExt Try.prog) := by
  refine Ctr.ok (c := Ctr.mk [] [(15, 2, nuY.lpP), (5, 14, fK.lpP), (5, 20, hK.lpP)]) (by kernel_rfl) (fun x hx => by cases hx) (fun x hx => ?_) A
  simp only [List.mem_cons, List.not_mem_nil, or_false] at hx
  rcases hx with rfl | rfl | rfl
  · exact nuY_ok hu
  · exact fK_ok hu
  · exact hK_ok hu
theorem ob_len' {e : Env} {i : Nat} (h2 : (e.v 7111).T.length ≤ 40) (hi : i ≤ stop (B77 (e.v 7112)) (e.v 7112).T.length) : (obAt (e.v 7110).I (e.v 7111) (e.v 7112) i).1.length ≤ 46 * i :=
  ob_len h2 i (fun j hj => by
    have := stop_before (Nat.lt_of_lt_of_le hj hi)
    simp only [B77, badBrk, Bool.or_eq_false_iff, decide_eq_false_iff_not] at this
    omega)
theorem obY_ok (hu : o.uf = UF) : LpOk Try.prog o 5 9 obY.lpP := by
  refine two_ok plain mixed (D := obY) (by kernel_rfl) (fun e => stop (B77 (e.v 7112)) (e.v 7112).T.length) obY_obl0 obY_obl1 (fun m h => m_of h) (fun m h => m_of h) (fun n => by rcases n with _ | _ | _ | n <;> rfl) (fun e i u A he _ _ => cOb_ok (o := obY.env e u i) (he.uf.trans hu) A)
    (fun e he h u => ?_) (fun e he h i u h0 hi => ?_) (fun e he h u => ?_) (fun e he h i u h0 hi => ?_) (fun e he h i u hi hl => ?_)
  · obtain ⟨h1, h2, h3, h4⟩ := obY_ent h
    exact obY_all0 (he.uf.trans hu) h3 h4 (by omega) (by omega) (Nat.zero_le _)
  · obtain ⟨h1, h2, h3, h4⟩ := obY_ent h
    exact obY_all1 (he.uf.trans hu) h3 h4 (by omega) (by omega) hi h0
  · have hu' := he.uf.trans hu
    obtain ⟨h1, h2, h3, h4⟩ := obY_ent h
    have hp : (obAt (e.v 7110).I (e.v 7111) (e.v 7112) 0).1 = [] := rfl
    have hp2 : (obAt (e.v 7110).I (e.v 7111) (e.v 7112) 0).2 = 0 := rfl
    simp only [obY, obT, obA, r22, pk, List.foldr, List.cons_append, List.nil_append, hold_cons_iff, hold_nil_iff, dB_le, dB_ieq, dB_lt, dI_il, dI_tlen, d_v, d_uf, d_cel, d_il, LoopY.env, hu', UF_80, UF_81, ar_0, ar_1, ar_2, ar_3, T_t, if_true, if_false, Nat.reduceEqDiff, I_i, Int.toNat_natCast, Int.toNat_zero, decide_eq_true_eq, and_true, hp, hp2, List.length_nil]
    omega
  · have hu' := he.uf.trans hu
    obtain ⟨h1, h2, h3, h4⟩ := obY_ent h
    have hle := @stop_le (B77 (e.v 7112)) (e.v 7112).T.length
    have hp := @ob_pos (e.v 7110).I (e.v 7111) (e.v 7112) i h0
    have ha := @ob_at (e.v 7110).I (e.v 7111) (e.v 7112) i
    have hl := ob_len' (e := e) (by omega) hi
    simp only [obY, obT, obA, r22, pk, List.foldr, List.cons_append, List.nil_append, hold_cons_iff, hold_nil_iff, dB_le, dB_ieq, dB_lt, dI_il, dI_tlen, d_v, d_uf, d_cel, d_il, LoopY.env, hu', UF_80, UF_81, ar_0, ar_1, ar_2, ar_3, T_t, if_true, if_false, Nat.reduceEqDiff, I_i, Int.toNat_natCast, decide_eq_true_eq, and_true]
    omega
  · have hu' := he.uf.trans hu
    simp only [obY, r22, pk, List.foldr, dB_lt, d_uf, d_cel, d_v, d_il, LoopY.env, hu', UF_78, ar_0, if_true, if_false, Nat.reduceEqDiff, I_i, decide_eq_true_eq] at hl
    omega
theorem jK_ent {e : Env} (h : (jK.ent 0).Hold e) : ((e.v 7150).T.length : Int) ≤ 40 := by
  simp only [jK, hold_cons_iff, hold_nil_iff, dB_le, dI_il, dI_tlen, d_v, decide_eq_true_eq, and_true] at h
  exact h
theorem jK_ok (hu : o.uf = UF) : LpOk Try.prog o 5 39 jK.lpP := by
  refine one_ok plain mixed (D := jK) (by kernel_rfl) (fun e => stop (B86 (e.v 7150)) (e.v 7150).T.length) jK_obl (fun m h => m_of h) (fun m h => m_of h) (fun _ => rfl) (fun e i u A he _ _ => c3_ok (o := jK.env e u i) (he.uf.trans hu) A)
    (fun e he h i u hi => jK_all (he.uf.trans hu) hi (jK_ent h)) (fun e he h i u hi => ?_) (fun e he h i u hi hl => ?_)
  · have h1 := jK_ent h
    have := @stop_le (B86 (e.v 7150)) (e.v 7150).T.length
    simp only [jK, r26, hold_cons_iff, hold_nil_iff, dB_le, dI_il, dI_tlen, d_v, LoopY.env, if_true, if_false, Nat.reduceEqDiff, I_i, decide_eq_true_eq, and_true]
    omega
  · have hu' := he.uf.trans hu
    simp only [jK, r26, pk, List.foldr, dB_lt, d_uf, d_cel, d_v, d_il, LoopY.env, hu', UF_87, ar_0, if_true, if_false, Nat.reduceEqDiff, I_i, decide_eq_true_eq] at hl
    omega
theorem kK_ok (hu : o.uf = UF) : LpOk Try.prog o 5 55 kK.lpP := by
  refine modes_ok plain mixed (D := kK) (L := kKL) (by kernel_rfl) (fun e => (e.v 7171).T.length)
    (fun e => noErr (e.v 7171).T = true ∧ ((e.v 7171).T.length : Int) ≤ 80 ∧ ((e.v 7170).T.length : Int) ≤ 100000)
    (fun e i m => (m = 0 ∧ i = 0 ∧ (e.v 7170).T = []) ∨ (m = 1 ∧ 0 < (e.v 7170).T.length + i)) (fun n => by rcases n with _ | _ | _ | n <;> rfl) (fun e m he h0 h => ?_) (fun e i m g h => ?_) (fun _ _ _ _ _ _ _ => extOk_none) (fun e i u m he g hi h => ?_) (fun e i u m he g hi h => ?_) (fun e i u he g hi hl => ?_) (fun e i u m m' he g hi h ht hf => ?_)
  · have hm : m ≤ 1 := Nat.le_of_ble_eq_true h0
    have hu' := he.uf.trans hu
    rcases m with _ | _ | m
    all_goals try omega
    all_goals simp only [kK, pk, List.foldr, List.cons_append, List.nil_append, hold_cons_iff, hold_nil_iff, dB_le, dB_lt, dB_ieq, dI_il, dI_tlen, d_v, d_uf, d_cel, hu', UF_93, ar_0, B_b, decide_eq_true_eq, and_true] at h
    all_goals refine ⟨⟨h.2.1, by omega, by omega⟩, fun u _ => ?_⟩
    · left
      refine ⟨rfl, rfl, List.eq_nil_of_length_eq_zero (by omega)⟩
    · right
      exact ⟨rfl, by omega⟩
  · rcases h with ⟨rfl, _⟩ | ⟨rfl, _⟩
    · exact kK_obl0
    · exact kK_obl1
  · exact kK_all (he.uf.trans hu) m g.1 g.2.1 g.2.2 hi (fun hm => by rcases h with h | h; exact h.2; omega) (fun hm => by rcases h with h | h; omega; exact h.2) (by rcases h with h | h <;> omega)
  · have hu' := he.uf.trans hu
    obtain ⟨g1, g2, g3⟩ := g
    have ht : ((e.v 7171).T.take i).length = i := by rw [List.length_take]; omega
    rcases h with ⟨rfl, rfl, hz⟩ | ⟨rfl, hz⟩
    · have hz' : (e.v 7170).T.length = 0 := by rw [hz]; rfl
      simp only [kK, kA, r28, pk, List.foldr, List.cons_append, List.nil_append, hold_cons_iff, hold_nil_iff, dB_le, dB_lt, dB_ieq, dI_il, dI_tlen, d_v, d_uf, d_cel, d_il, LoopY.env, hu', UF_91, ar_0, ar_1, ar_2, T_t, List.length_append, ht, if_true, if_false, Nat.reduceEqDiff, I_i, Int.toNat_natCast, decide_eq_true_eq, and_true]
      omega
    · simp only [kK, kA, r28, pk, List.foldr, List.cons_append, List.nil_append, hold_cons_iff, hold_nil_iff, dB_le, dB_lt, dB_ieq, dI_il, dI_tlen, d_v, d_uf, d_cel, d_il, LoopY.env, hu', UF_91, ar_0, ar_1, ar_2, T_t, List.length_append, ht, if_true, if_false, Nat.reduceEqDiff, I_i, Int.toNat_natCast, decide_eq_true_eq, and_true]
      omega
  · simp only [kK, r28, dB_lt, dI_tlen, d_v, LoopY.env, if_true, if_false, Nat.reduceEqDiff, I_i, decide_eq_true_eq] at hl
    omega
  · right
    exact ⟨m_of ht, by omega⟩
theorem cA_ok (hu : o.uf = UF) (A : Anchor) : ExtOk Try.prog o A (aK.X.toExt Try.prog) := by
  refine Ctr.ok (c := Ctr.mk [] [(5, 55, kK.lpP)]) (by kernel_rfl) (fun x hx => by cases hx) (fun x hx => ?_) A
  rcases List.mem_cons.1 hx with rfl | hx
  · exact kK_ok hu
  · cases hx
theorem aK_ok (hu : o.uf = UF) : LpOk Try.prog o 5 50 aK.lpP := by
  refine modes_ok plain mixed (D := aK) (L := aKL) (by kernel_rfl) (fun e => (e.v 7160).T.length)
    (fun e => okW (e.v 7161).S (e.v 7160).T = true ∧ ((e.v 7160).T.length : Int) ≤ 1000)
    (fun e i m => (m = 0 ∧ sentsOf ((e.v 7160).T.take i) = []) ∨ (m = 1 ∧ 0 < (sentsOf ((e.v 7160).T.take i)).length)) (fun n => by rcases n with _ | _ | _ | n <;> rfl) (fun e m he h0 h => ?_) (fun e i m g h => ?_) (fun e i u A he _ _ => cA_ok (o := aK.env e u i) (he.uf.trans hu) A) (fun e i u m he g hi h => ?_) (fun e i u m he g hi h => ?_) (fun e i u he g hi hl => ?_) (fun e i u m m' he g hi h ht hf => ?_)
  · have hm := m_of h0
    subst hm
    have hu' := he.uf.trans hu
    simp only [aK, pk, List.foldr, hold_cons_iff, hold_nil_iff, dB_le, dI_il, dI_tlen, d_v, d_uf, d_cel, hu', UF_90, ar_0, ar_1, B_b, decide_eq_true_eq, and_true] at h
    exact ⟨h, fun _ _ => .inl ⟨rfl, rfl⟩⟩
  · rcases h with ⟨rfl, _⟩ | ⟨rfl, _⟩
    · exact aK_obl0
    · exact aK_obl1
  · exact aK_all (he.uf.trans hu) m g.1 g.2 hi (fun hm => by rcases h with h | h; exact h.2; omega) (fun hm => by rcases h with h | h; omega; exact h.2) (by rcases h with h | h <;> omega)
  · have hu' := he.uf.trans hu
    obtain ⟨g1, g2⟩ := g
    have ht := sents_bound g1 (i := i)
    rcases h with ⟨rfl, hz⟩ | ⟨rfl, hz⟩
    · have hz' : (sentsOf ((e.v 7160).T.take i)).length = 0 := by rw [hz]; rfl
      simp only [aK, aA, r27, pk, List.foldr, List.cons_append, List.nil_append, hold_cons_iff, hold_nil_iff, dB_le, dB_lt, dB_ieq, dI_il, dI_tlen, d_v, d_uf, d_cel, d_il, LoopY.env, hu', UF_88, ar_0, ar_1, ar_2, T_t, if_true, if_false, Nat.reduceEqDiff, I_i, Int.toNat_natCast, decide_eq_true_eq, and_true]
      omega
    · simp only [aK, aA, r27, pk, List.foldr, List.cons_append, List.nil_append, hold_cons_iff, hold_nil_iff, dB_le, dB_lt, dB_ieq, dI_il, dI_tlen, d_v, d_uf, d_cel, d_il, LoopY.env, hu', UF_88, ar_0, ar_1, ar_2, T_t, if_true, if_false, Nat.reduceEqDiff, I_i, Int.toNat_natCast, decide_eq_true_eq, and_true]
      omega
  · simp only [aK, r27, dB_lt, dI_tlen, d_v, LoopY.env, if_true, if_false, Nat.reduceEqDiff, I_i, decide_eq_true_eq] at hl
    omega
  · have hu' := he.uf.trans hu
    have hm : m' ≤ 1 := Nat.le_of_ble_eq_true ht
    rcases m' with _ | _ | m'
    all_goals try omega
    all_goals simp only [aK, aA, r27, pk, List.foldr, hold_cons_iff, hold_nil_iff, dB_lt, dB_ieq, dI_il, dI_tlen, d_v, d_uf, d_cel, d_il, LoopY.env, hu', UF_88, ar_0, ar_1, T_t, if_true, if_false, Nat.reduceEqDiff, I_i, toNat_succ, Int.natCast_add, Int.cast_ofNat_Int, decide_eq_true_eq, and_true] at hf
    · exact .inl ⟨rfl, List.eq_nil_of_length_eq_zero (by omega)⟩
    · exact .inr ⟨rfl, by omega⟩
theorem tlY_ent {e : Env} (h : (tlY.ent 0).Hold e) : ((e.v 7065).T.length : Int) ≤ 9223372036854775807 ∧ ((e.v 7066).T.length : Int) ≤ 9223372036854775807 := by
  simp only [tlY, hold_cons_iff, hold_nil_iff, dB_le, dI_il, dI_tlen, d_v, decide_eq_true_eq, and_true] at h
  exact h
theorem tlY_ok (hu : o.uf = UF) : LpOk Try.prog o 23 4 tlY.lpP := by
  refine one_ok plain mixed (D := tlY) (by kernel_rfl) (fun e => stop (Btl (e.v 7065) (e.v 7066)) (e.v 7065).T.length) tlY_obl (fun m h => m_of h) (fun m h => m_of h) (fun _ => rfl) (fun e i u A he _ _ => c7_ok (o := tlY.env e u i) (he.uf.trans hu) A)
    (fun e he h i u hi => tlY_all (he.uf.trans hu) hi (tlY_ent h).1 (tlY_ent h).2) (fun e he h i u hi => ?_) (fun e he h i u hi hl => ?_)
  · have h1 := (tlY_ent h).1
    have := @stop_le (Btl (e.v 7065) (e.v 7066)) (e.v 7065).T.length
    simp only [tlY, tlG, guardT, hold_cons_iff, hold_nil_iff, dB_le, dI_il, dI_tlen, d_v, LoopY.env, if_true, if_false, Nat.reduceEqDiff, I_i, decide_eq_true_eq, and_true]
    omega
  · have hu' := he.uf.trans hu
    simp only [tlY, tlG, guardT, pk, List.foldr, dB_lt, d_uf, d_cel, d_v, d_il, LoopY.env, hu', UF_97, ar_0, ar_1, if_true, if_false, Nat.reduceEqDiff, I_i, decide_eq_true_eq] at hl
    omega
theorem c11_ok (hu : o.uf = UF) (A : Anchor) : ExtOk Try.prog o A (wK.X.toExt Try.prog) := by
  refine Ctr.ok (c := Ctr.mk [] [(15, 2, nuY.lpP), (23, 4, tlY.lpP), (43, 2, ixY.lpP)]) (by kernel_rfl) (fun x hx => by cases hx) (fun x hx => ?_) A
  simp only [List.mem_cons, List.not_mem_nil, or_false] at hx
  rcases hx with rfl | rfl | rfl
  · exact nuY_ok hu
  · exact tlY_ok hu
  · exact ixY_ok hu
theorem wK_ent {e : Env} {m : Nat} (hu : e.uf = UF) (h : (wK.ent m).Hold e) : (m = 0 → (e.v 7181).T.length = 0) ∧ (∀ j, j < (e.v 7181).T.length → okObj (row (e.v 7181) j) = true) ∧ (e.v 7181).T.length ≤ 40 ∧ 1 ≤ (e.v 7180).I ∧ (e.v 7180).I ≤ 1048576 := by
  have key : anyB (B86 (e.v 7181)) (e.v 7181).T.length = false → ∀ j, j < (e.v 7181).T.length → okObj (row (e.v 7181) j) = true := fun h j hj => by
    have := anyB_false h j hj
    simpa [B86] using this
  rcases m with _ | m
  all_goals simp only [wK, pk, List.foldr, List.cons_append, List.nil_append, hold_cons_iff, hold_nil_iff, dB_le, dB_ieq, dI_il, dI_tlen, d_v, d_uf, d_cel, hu, UF_86, ar_0, B_b, decide_eq_true_eq, and_true] at h
  · exact ⟨fun _ => by omega, key h.2.1, by omega, by omega, by omega⟩
  · exact ⟨fun h => by omega, key h.1, by omega, by omega, by omega⟩
theorem wK_ok (hu : o.uf = UF) : LpOk Try.prog o 5 65 wK.lpP := by
  refine modes_ok plain mixed (D := wK) (L := wKL) (by kernel_rfl) (fun e => (e.v 7181).T.length)
    (fun e => (∀ j, j < (e.v 7181).T.length → okObj (row (e.v 7181) j) = true) ∧ (e.v 7181).T.length ≤ 40 ∧ 1 ≤ (e.v 7180).I ∧ (e.v 7180).I ≤ 1048576)
    (fun e i m => (m = 0 ∧ (e.v 7181).T.length = 0) ∨ (m = 1 ∧ 0 < (e.v 7181).T.length)) (fun n => by rcases n with _ | _ | n <;> rfl) (fun e m he h0 h => ?_) (fun e i m g h => ?_) (fun e i u A he _ _ => c11_ok (o := wK.env e u i) (he.uf.trans hu) A) (fun e i u m he g hi h => ?_) (fun e i u m he g hi h => ?_) (fun e i u he g hi hl => ?_) (fun e i u m m' he g hi h ht hf => ?_)
  · have hm : m ≤ 1 := Nat.le_of_ble_eq_true h0
    have hu' := he.uf.trans hu
    obtain ⟨h1, h2⟩ := wK_ent hu' h
    refine ⟨h2, fun u hf => ?_⟩
    rcases m with _ | _ | m
    · exact .inl ⟨rfl, h1 rfl⟩
    · simp only [wK, wA, r29, pk, List.foldr, hold_cons_iff, hold_nil_iff, dB_lt, dB_ieq, dI_il, dI_tlen, d_v, d_uf, d_cel, d_il, LoopY.env, hu', UF_94, ar_0, ar_1, T_t, want_len, if_true, if_false, Nat.reduceEqDiff, I_i, decide_eq_true_eq, and_true] at hf
      exact .inr ⟨rfl, by omega⟩
    · omega
  · rcases h with ⟨rfl, _⟩ | ⟨rfl, _⟩
    · exact wK_obl0
    · exact wK_obl1
  · exact wK_all (he.uf.trans hu) m g.2.2.1 g.2.2.2 (by omega) g.1 hi (fun hm => by rcases h with h | h; exact h.2; omega) (fun hm => by rcases h with h | h; omega; exact h.2) (by rcases h with h | h <;> omega)
  · have hu' := he.uf.trans hu
    obtain ⟨g1, g2, g3, g4⟩ := g
    rcases h with ⟨rfl, hz⟩ | ⟨rfl, hz⟩
    all_goals simp only [wK, wA, r29, pk, List.foldr, List.cons_append, List.nil_append, hold_cons_iff, hold_nil_iff, dB_le, dB_lt, dB_ieq, dI_il, dI_tlen, d_v, d_uf, d_cel, d_il, LoopY.env, hu', UF_94, ar_0, ar_1, ar_2, T_t, want_len, if_true, if_false, Nat.reduceEqDiff, I_i, Int.toNat_natCast, decide_eq_true_eq, and_true]
    all_goals simp only [true_and]
    all_goals omega
  · have hu' := he.uf.trans hu
    simp only [wK, wA, r29, pk, List.foldr, dB_lt, dI_tlen, d_v, d_uf, d_cel, LoopY.env, hu', UF_94, ar_0, ar_1, T_t, want_len, if_true, if_false, Nat.reduceEqDiff, I_i, decide_eq_true_eq] at hl
    omega
  · have hu' := he.uf.trans hu
    have hm : m' ≤ 1 := Nat.le_of_ble_eq_true ht
    rcases m' with _ | _ | m'
    all_goals try omega
    all_goals simp only [wK, wA, r29, pk, List.foldr, hold_cons_iff, hold_nil_iff, dB_lt, dB_ieq, dI_il, dI_tlen, d_v, d_uf, d_cel, d_il, LoopY.env, hu', UF_94, ar_0, ar_1, T_t, want_len, if_true, if_false, Nat.reduceEqDiff, I_i, decide_eq_true_eq, and_true] at hf
    all_goals omega
theorem cW_ok (hu : o.uf = UF) (A : Anchor) : ExtOk Try.prog o A (cW.x.toExt Try.prog) := by
  refine Ctr.ok (by kernel_rfl) (fun x hx => by cases hx) (fun x hx => ?_) A
  have hx : x ∈ [(35, 4, fits6.lpP), (6, 4, fits31.lpP), (7, 2, steps.lpP), (22, 2, pairs.lpP), (22, 7, dup.lpP), (29, 3, objIn.lpP), (41, 9, objOut.lpP), (8, 7, im.lpP), (15, 2, nuY.lpP), (12, 4, fits18.lpP), (5, 9, obY.lpP), (5, 35, iK.lpP), (5, 39, jK.lpP), (5, 50, aK.lpP), (5, 65, wK.lpP)] := hx
  simp only [List.mem_cons, List.not_mem_nil, or_false] at hx
  rcases hx with rfl | rfl | rfl | rfl | rfl | rfl | rfl | rfl | rfl | rfl | rfl | rfl | rfl | rfl | rfl
  · exact fits6_ok hu
  · exact fits31_ok hu
  · exact steps_ok hu
  · exact pairs_ok hu
  · exact dup_ok hu
  · exact objIn_ok
  · exact objOut_ok
  · exact im_ok hu
  · exact nuY_ok hu
  · exact fits18_ok hu
  · exact obY_ok hu
  · exact iK_ok hu
  · exact jK_ok hu
  · exact aK_ok hu
  · exact wK_ok hu
end
end Go.Proofs.Ytckdphmpafopmaa.sxRetrying

namespace Go.Proofs.Ytckdphmpafopmaa.sxRetrying
open Go.Sx Go.RowKit
set_option linter.unusedVariables false
set_option linter.unusedSimpArgs false
set_option maxRecDepth 100000

theorem num_fold {n : Int} : chB (48 + (nuAt n (nuN n)).1) ++ (nuAt n (nuN n)).2 = num n := rfl
theorem ob_0 {first : Int} {ch brs : Dv} : obAt first ch brs 0 = ([], 0) := rfl
theorem oRow_lit : [Dv.i 1, .i 0, .s ⟨[].toArray⟩, .s ⟨[].toArray⟩, .s ⟨[].toArray⟩, .s ⟨[].toArray⟩, .i 0, .s ⟨[].toArray⟩, .b false, .b false, .i 0, .i 0] = oRow := rfl
theorem all_0 {f : Int} {ch br : Dv} (h : ((br.T.length : Nat) : Int) = 0) : sends [oRow] f ch 0 ((ch.T.length : Int) - 0).toNat = allR f ch br := by
  have : br.T.length = 0 := by omega
  unfold allR
  rw [this, ob_0]
  simp only [List.nil_append, Int.sub_zero, Int.toNat_natCast, Nat.sub_zero]
theorem all_1 {f : Int} {ch br : Dv} : sends ((obAt f ch br br.T.length).1 ++ [oRow]) f ch (obAt f ch br br.T.length).2 ((ch.T.length : Int) - ((obAt f ch br br.T.length).2 : Int)).toNat = allR f ch br := by
  unfold allR
  rw [Int.toNat_sub]
theorem row_0 {f : Int} {ch br : Dv} (h : ((br.T.length : Nat) : Int) = 0) : row (.t (allR f ch br)) 0 = oRow := by
  have : br.T.length = 0 := by omega
  unfold allR
  rw [this, ob_0]
  rfl
/-- What is known of the whole. -/
theorem whole_facts {f : Int} {ch br : Dv} (hf : ¬ f < 1) (hf2 : ¬ 1048576 < f) (hc : ¬ (40 : Int) < ch.T.length) (hb : ¬ (20 : Int) < br.T.length) (h77 : anyB (B77 br) br.T.length = false) :
    okW (num f) (answers (num f) (allR f ch br)).T = true ∧ sentsOf (answers (num f) (allR f ch br)).T = want f ch 0 ch.T.length ∧ (answers (num f) (allR f ch br)).T.length = (allR f ch br).length ∧ (allR f ch br).length ≤ 1000 ∧
    (anyB (B86 ch) ch.T.length = false → anyB (B9 (.t (allR f ch br))) (allR f ch br).length = false) ∧ ((obAt f ch br br.T.length).2 ≤ ch.T.length ∧ (obAt f ch br br.T.length).1.length ≤ 920) ∧
    (0 ≤ (nuAt f (nuN f)).1 ∧ (nuAt f (nuN f)).1 ≤ 9 ∧ (nuAt f (nuN f)).2.size ≤ 15) ∧ (num f).toList ≠ [] ∧ (num f).toList ≠ [48] ∧ (allR f ch br).length = (obAt f ch br br.T.length).1.length + 1 + (ch.T.length - (obAt f ch br br.T.length).2) := by
  have h3 : ∀ j, j < br.T.length → (cc (row br j) 2).I ≤ 3 := fun j hj => by
    have := anyB_false h77 j hj
    simp only [B77, badBrk, Bool.or_eq_false_iff, decide_eq_false_iff_not] at this
    omega
  have hol := ob_len (first := f) (ch := ch) (by omega) br.T.length h3
  have hq := nu_fin (n := f) (by omega) (by omega)
  refine ⟨whole_ok, whole_sent, len_answers, whole_len (by omega) (by omega) h3, fun h86 => ?_, ⟨ob_at _, by omega⟩, ⟨hq.1, hq.2.1, hq.2.2.1⟩, num_ne, num_not0 (by omega) (by omega), ?_⟩
  · have ho : ∀ j, j < ch.T.length → okObj (row ch j) = true := fun j hj => by
      have := anyB_false h86 j hj
      simpa [B86] using this
    have hg := whole_good (first := f) (ch := ch) (brs := br) (by omega) (by omega) (by omega) ho
    refine anyB_of fun i hi => ?_
    unfold B9
    rw [Bool.not_eq_false']
    have : row (.t (allR f ch br)) i = (allR f ch br)[i] := by
      show (((allR f ch br)[i]?).getD []) = _
      rw [List.getElem?_eq_getElem hi]; rfl
    rw [this]
    exact hg _ (List.getElem_mem hi)
  · unfold allR
    rw [sends_len, List.length_append]; rfl
theorem verAt_nil {v : ByteArray} : verAt v [] = v := rfl
theorem sentsOf_nil : sentsOf [] = [] := rfl
theorem st_0 {v : ByteArray} {l : List (List Dv)} : stAt v l 0 = ⟨v, false, false⟩ := rfl
theorem nu_0 {n : Int} : nuAt n 0 = (n, nos) := rfl
theorem e_toList : (ByteArray.mk #[]).toList = [] := by decide +kernel
theorem z_toList : (ByteArray.mk #[48]).toList = [48] := by decide +kernel
theorem n_toList : nos.toList = [] := e_toList
set_option maxHeartbeats 8000000 in
theorem wh_all {o : Env} (hu : o.uf = UF) : AllL o whL := by
  have W := @whole_facts (o.v 0).I (o.v 32) (o.v 64)
  have hsz : ∀ z, (chB z).size = 1 := fun z => rfl
  have a0 := @all_0 (o.v 0).I (o.v 32) (o.v 64)
  have a1 := @all_1 (o.v 0).I (o.v 32) (o.v 64)
  simp only [whL, allL_cons, allL_nil, and_true]
  and_intros
  all_goals intro h
  all_goals simp only [hold_cons_iff, hold_nil_iff, allT_cons, allT_nil, ob_e, ob_t, dB_lt, dB_le, dB_ieq, dB_seq, dB_not, dB_beq, dB_bl, dI_il, dI_add, dI_sub, dI_size, dI_tlen, dS_sl, d_v, d_uf, d_cel, d_cell, d_il, d_bl, d_sl, d_add, d_sub, d_chr, d_cat, d_size, d_tlen, dT_cat, ar_0, ar_1, ar_2, ar_3, ar_4, T_cel, hd_1, hd_0, I_i, B_b, S_s, T_i, T_t, Int.toNat_zero, hu, UF_70, UF_72, UF_73, UF_74, UF_75, UF_77, UF_80, UF_81, UF_82, UF_83, UF_85, UF_86, UF_88, UF_89, UF_90, UF_94, UF_30, UF_9, UF_20, UF_21, UF_22, num_fold, ob_0, oRow_lit, decide_eq_true_eq, decide_eq_false_iff_not, and_true, Bool.not_eq_true'] at h ⊢
  all_goals try (exact trivial)
  all_goals by_cases h77 : anyB (B77 (o.v 64)) (o.v 64).T.length = false
  all_goals try (exfalso; grind)
  all_goals try (clear W a0 a1; simp_all; done)
  all_goals
    obtain ⟨w1, w2, w3, w4, w5, ⟨w6, w7⟩, ⟨w8, w9, w10⟩, w11, w12, w13⟩ := W (by omega) (by omega) (by omega) (by omega) h77
    have wt : List.take (allR (o.v 0).I (o.v 32) (o.v 64)).length (answers (num (o.v 0).I) (allR (o.v 0).I (o.v 32) (o.v 64))).T = (answers (num (o.v 0).I) (allR (o.v 0).I (o.v 32) (o.v 64))).T := by
      have := @List.take_length _ (answers (num (o.v 0).I) (allR (o.v 0).I (o.v 32) (o.v 64))).T
      rw [w3] at this
      exact this
    by_cases hz : ((o.v 64).T.length : Int) = 0
  all_goals first
    | (have a0' := a0 hz; simp only [a0', sends_zero, row_1, a1, w1, w2, w3, verAt_nil, sentsOf_nil, List.take_zero, st_0, nu_0, e_toList, z_toList, n_toList, hsz, want_len, List.length_nil, Int.toNat_natCast, wt, T_t] at h ⊢)
    | (simp only [sends_zero, a1, w1, w2, w3, verAt_nil, sentsOf_nil, List.take_zero, st_0, nu_0, e_toList, z_toList, n_toList, hsz, want_len, List.length_nil, Int.toNat_natCast, wt, T_t] at h ⊢)
  all_goals try simp only [oRow, cc_0, cc_s, I_i, B_b, S_s, T_i, n_toList, List.length_cons, List.length_nil] at h ⊢
  all_goals clear W a0 a1 wt w1 w2
  all_goals try clear a0'
  all_goals try (exfalso; clear w5; omega)
  all_goals and_intros
  all_goals first
    | trivial
    | omega
    | rfl
    | (simp; done)
    | grind
    | skip
theorem wh_obl : lawObl Try.prog cW.x 5 [.int .i64, .dsl objK, .dsl brkK] 80 = some whL := by kernel_rfl

/-! ### the law -/
theorem own : ownKnob Try.prog.godebug = none := by kernel_rfl
theorem laid : laidOutB Try.prog = true := by kernel_rfl
def ksW : List PK := [.int .i64, .dsl objK, .dsl brkK]
theorem wh_contract (H : Type) (enc : TypeId × Value → H) (W : World) (base : Nat) (args : Array Value) (ds gs : List (DataW H)) (before : List MemPlace)
    (hval : ∀ (j : Nat) t v, Try.f5.params[j]? = some t → args[j]? = some v → Value.okWide Try.prog W .any base t v)
    (hW : DataW.Whole enc Try.prog Try.f5.params.toList Rows.fnRetryingWholeSpec.vars false W args.toList ds gs before) :
    Calls Try.prog 5 args W fun e W' => ∃ v, e = .returned v ∧ Rows.fnRetryingWholeSpec.post enc Try.prog Try.f5 false true false false W args v W' :=
  law_contract laid (ks := ksW) (tb := 4) (by kernel_rfl) (by kernel_rfl) (by kernel_rfl) (by kernel_rfl) rfl
    (fun ds hd => by
      match ds, hd with
      | [d, e, f], _ => rfl) (fun vs hl hall => law_walk plain mixed (by decide) wh_obl (fun o A hu => cW_ok hu A) (fun o hu => wh_all hu) W vs hl hall) hval hW

theorem wh_lifted (os : Os) (started : os.Started) (H : Type) (enc : TypeId × Value → H) :
    ReturnsInHanded {} Try.checked os 5 .any (Rows.fnRetryingWholeSpec.pre6 enc Try.prog Try.f5 Rows.fnRetryingWholeRow.domain false) (Rows.fnRetryingWholeSpec.post enc Try.prog Try.f5 false true false false) := by
  refine returnsInHanded_of_change (C := Try.checked) (s := Rows.fnRetryingWholeSpec) own started (by kernel_rfl) Try.func5
    (ChangeSpec.witness6 (enc := enc) (C := Try.checked) false ⟨#[], #[.int .i64 0, .slice none 0 0, .slice none 0 0], []⟩ 8 (by kernel_rfl) (by kernel_rfl) (by kernel_rfl) (by kernel_rfl)) ?_
  intro W base args ds gs before hval hW _ _
  exact wh_contract H enc W base args ds gs before hval hW

theorem whProved : Rows.FnRetryingWholeSaid :=
  OpenClaim.holds_of_wide 5 Try.f5 rfl rfl rfl rfl rfl rfl rfl ⟨rfl, rfl, rfl, rfl, rfl⟩ rfl rfl rfl rfl rfl (by kernel_rfl) Try.func5 (by kernel_rfl)
    (of_decide_eq_true (by kernel_rfl)) (by unfold Func.isWrapper; first | (rw [if_pos (by decide +kernel)]; kernel_rfl) | (rw [if_neg (by decide +kernel)]; exact ⟨rfl, rfl⟩))
    (fun os started H enc _ => wh_lifted os started H enc)

end Go.Proofs.Ytckdphmpafopmaa.sxRetrying
