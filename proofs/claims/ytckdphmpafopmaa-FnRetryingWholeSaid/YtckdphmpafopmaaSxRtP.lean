/-
  THE LAW FnRetryingWhole: a round of the loop over breaks.
-/
import Derived.Test.YtckdphmpafopmaaSxRtA
import Derived.Test.YtckdphmpafopmaaSxRtW
namespace Go.Proofs.Ytckdphmpafopmaa.sxRetrying
open Go.Sx Go.RowKit
set_option linter.unusedVariables false
set_option linter.unusedSimpArgs false
set_option maxRecDepth 100000

/-! ### numbers -/
theorem nu_inv {n : Int} (h : 0 ≤ n) : ∀ k, 0 ≤ (nuAt n k).1 ∧ (nuAt n k).1 * 10 ^ k ≤ n
  | 0 => ⟨h, by show n * 10 ^ 0 ≤ n; omega⟩
  | k + 1 => by
    obtain ⟨h1, h2⟩ := nu_inv h k
    show 0 ≤ (nuAt n k).1.tdiv 10 ∧ (nuAt n k).1.tdiv 10 * 10 ^ (k + 1) ≤ n
    rw [Int.tdiv_eq_ediv_of_nonneg h1]
    refine ⟨by omega, ?_⟩
    have h3 : (nuAt n k).1 / 10 * 10 ≤ (nuAt n k).1 := by omega
    have h4 : (0 : Int) ≤ 10 ^ k := Int.pow_nonneg (by decide)
    have h5 := Int.mul_le_mul_of_nonneg_right h3 h4
    have h6 : (nuAt n k).1 / 10 * 10 ^ (k + 1) = (nuAt n k).1 / 10 * 10 * 10 ^ k := by rw [Int.pow_succ, Int.mul_assoc, Int.mul_comm 10]
    omega
theorem nu_15 {n : Int} (h : 0 ≤ n) (hn : n ≤ 1000000000000000) : (nuAt n 15).1 ≤ 9 := by
  have := (nu_inv h 15).2
  have e : (10 : Int) ^ 15 = 1000000000000000 := by decide
  rw [e] at this
  omega
theorem nu_stop {n : Int} (h : 0 ≤ n) (hn : n ≤ 1000000000000000) : nuN n ≤ 15 := by
  rcases Nat.lt_or_ge 15 (nuN n) with hl | hl
  · have := stop_before hl
    have h9 := nu_15 h hn
    exact absurd h9 (of_decide_eq_false this)
  · exact hl
theorem nu_last {n : Int} (h : 0 ≤ n) (hn : n ≤ 1000000000000000) : (nuAt n (nuN n)).1 ≤ 9 := by
  have h1 := nu_stop h hn
  have : nuN n < 20 := by omega
  exact of_decide_eq_true (stop_at this)
theorem nu_go {n : Int} {k : Nat} (h : k < nuN n) : 9 < (nuAt n k).1 := by
  have := of_decide_eq_false (stop_before h)
  omega
theorem nu_pos {n : Int} (h : 1 ≤ n) : 1 ≤ (nuAt n (nuN n)).1 := by
  cases hk : nuN n with
  | zero => exact h
  | succ k =>
    have h1 := nu_go (n := n) (k := k) (by omega)
    show 1 ≤ (nuAt n k).1.tdiv 10
    rw [Int.tdiv_eq_ediv_of_nonneg (by omega)]
    omega
theorem chB_size {z : Int} : (chB z).size = 1 := rfl
theorem nu_size {n : Int} : ∀ k, (nuAt n k).2.size = k
  | 0 => rfl
  | k + 1 => by
    show (chB _ ++ (nuAt n k).2).size = k + 1
    rw [ByteArray.size_append, chB_size, nu_size k]; omega
theorem num_size {n : Int} : (num n).size = 1 + nuN n := by
  unfold num
  rw [ByteArray.size_append, chB_size, nu_size]
theorem num_cons {n : Int} : ∃ r, (num n).toList = UInt8.ofNat (48 + (nuAt n (nuN n)).1).toNat :: r := by
  unfold num
  rw [ByteArray.toList_eq, ByteArray.data_append, Array.toList_append]
  exact ⟨_, rfl⟩
theorem num_ne {n : Int} : (num n).toList ≠ [] := by
  obtain ⟨r, h⟩ := @num_cons n
  rw [h]; exact List.cons_ne_nil _ _
theorem num_not0 {n : Int} (h : 1 ≤ n) (hn : n ≤ 1000000000000000) : (num n).toList ≠ [48] := by
  obtain ⟨r, hr⟩ := @num_cons n
  rw [hr]
  intro he
  have h1 := nu_pos h
  have h2 := nu_last (by omega) hn
  injection he with he _
  generalize (nuAt n (nuN n)).1 = z at *
  have : z = 1 ∨ z = 2 ∨ z = 3 ∨ z = 4 ∨ z = 5 ∨ z = 6 ∨ z = 7 ∨ z = 8 ∨ z = 9 := by omega
  rcases this with rfl | rfl | rfl | rfl | rfl | rfl | rfl | rfl | rfl <;> revert he <;> decide

/-! ### runs -/
def runSt : St → List (List Dv) → St
  | s, [] => s
  | s, l :: r => runSt (stepW s l).1 r
def runAns : St → List (List Dv) → List (List Dv)
  | _, [] => []
  | s, l :: r => (stepW s l).2 :: runAns (stepW s l).1 r
theorem runSt_append : ∀ {s : St} {a b : List (List Dv)}, runSt s (a ++ b) = runSt (runSt s a) b
  | _, [], _ => rfl
  | s, l :: a, b => runSt_append (s := (stepW s l).1) (a := a) (b := b)
theorem runAns_append : ∀ {s : St} {a b : List (List Dv)}, runAns s (a ++ b) = runAns s a ++ runAns (runSt s a) b
  | _, [], _ => rfl
  | s, l :: a, b => by
    have := runAns_append (s := (stepW s l).1) (a := a) (b := b)
    show _ :: runAns (stepW s l).1 (a ++ b) = _
    rw [this]; rfl
theorem runAns_length : ∀ {s : St} {a : List (List Dv)}, (runAns s a).length = a.length
  | _, [] => rfl
  | _, _ :: _ => congrArg (· + 1) runAns_length
theorem runAns_get : ∀ {s : St} {a : List (List Dv)} {i : Nat}, i < a.length → (runAns s a)[i]? = some (stepW (runSt s (a.take i)) ((a[i]?).getD [])).2
  | _, [], _, h => by simp at h
  | s, l :: r, 0, h => rfl
  | s, l :: r, i + 1, h => by
    show (runAns (stepW s l).1 r)[i]? = _
    rw [runAns_get (by simpa using h)]; rfl
theorem stAt_run {rv : ByteArray} {rows : List (List Dv)} : ∀ {i : Nat}, i ≤ rows.length → stAt rv rows i = runSt ⟨rv, false, false⟩ (rows.take i)
  | 0, _ => rfl
  | i + 1, h => by
    show (stepW (stAt rv rows i) _).1 = _
    rw [stAt_run (by omega), List.take_add_one, runSt_append, List.getElem?_eq_getElem (by omega)]
    rfl
theorem answers_run {rv : ByteArray} {rows : List (List Dv)} : answers rv rows = .t (runAns ⟨rv, false, false⟩ rows) := by
  unfold answers
  congr 1
  refine List.ext_getElem? fun i => ?_
  rcases Nat.lt_or_ge i rows.length with h | h
  · rw [runAns_get h, List.getElem?_map, List.getElem?_range h]
    show some (stepW (stAt rv rows i) _).2 = _
    rw [stAt_run (by omega)]
  · rw [List.getElem?_eq_none (l := runAns _ _) (by rw [runAns_length]; omega), List.getElem?_eq_none (by simp; omega)]
theorem okW_append : ∀ {v : ByteArray} {a b : List (List Dv)}, okW v (a ++ b) = (okW v a && okW (verAt v a) b)
  | v, [], b => rfl
  | v, l :: r, b => by
    show (_ && okW (verOf v (cc l 0).T) (r ++ b)) = ((_ && okW (verOf v (cc l 0).T) r) && okW (verAt (verOf v (cc l 0).T) r) b)
    rw [okW_append]; simp only [Bool.and_assoc]
theorem verAt_append {v : ByteArray} {a b : List (List Dv)} : verAt v (a ++ b) = verAt (verAt v a) b := List.foldl_append
theorem sentsOf_append {a b : List (List Dv)} : sentsOf (a ++ b) = sentsOf a ++ sentsOf b := List.flatMap_append
structure Sim (s : St) (L : List (List Dv)) (s' : St) (S : List (List Dv)) : Prop where
  st : runSt s L = s'
  ok : okW s.rv (runAns s L) = true
  ver : verAt s.rv (runAns s L) = s'.rv
  sent : sentsOf (runAns s L) = S
theorem Sim.nil {s : St} : Sim s [] s [] := ⟨rfl, rfl, rfl, rfl⟩
theorem Sim.append {s s' s'' : St} {L M S T : List (List Dv)} (h : Sim s L s' S) (g : Sim s' M s'' T) : Sim s (L ++ M) s'' (S ++ T) := by
  refine ⟨?_, ?_, ?_, ?_⟩
  · rw [runSt_append, h.st, g.st]
  · rw [runAns_append, okW_append, h.ok, h.st, h.ver, g.ok]; rfl
  · rw [runAns_append, verAt_append, h.st, h.ver, g.ver]
  · rw [runAns_append, sentsOf_append, h.st, h.sent, g.sent]
theorem Sim.one {s : St} {l a : List Dv} {s' : St} {S : List (List Dv)} (h : stepW s l = (s', a)) (h3 : (cc a 3).B = false) (h1 : (cc a 1).B = true → (cc a 2).S = s.rv) (h0 : noErr (cc a 0).T = true) (hl : (cc a 0).T.length ≤ 80) (hv : verOf s.rv (cc a 0).T = s'.rv) (hs : (cc a 0).T = S) : Sim s [l] s' S := by
  refine ⟨by show (stepW s l).1 = s'; rw [h], ?_, ?_, ?_⟩
  · show (!(cc (stepW s l).2 3).B && (!(cc (stepW s l).2 1).B || (cc (stepW s l).2 2).S.toList == s.rv.toList) && noErr (cc (stepW s l).2 0).T && decide ((cc (stepW s l).2 0).T.length ≤ 80) && true) = true
    rw [h]
    show (!(cc a 3).B && (!(cc a 1).B || (cc a 2).S.toList == s.rv.toList) && noErr (cc a 0).T && decide ((cc a 0).T.length ≤ 80) && true) = true
    rw [h3, h0, decide_eq_true hl]
    cases hb : (cc a 1).B with
    | false => rfl
    | true => rw [h1 hb]; simp
  · show verOf s.rv (cc (stepW s l).2 0).T = _
    rw [h]; exact hv
  · show (cc (stepW s l).2 0).T ++ [] = S
    rw [h, List.append_nil]; exact hs
theorem tmod2 (x : Int) (h : 0 ≤ x) : x.tmod 2 = 0 ∨ x.tmod 2 = 1 := by rw [Int.tmod_eq_emod_of_nonneg h]; omega
theorem tmod3 (x : Int) (h : 0 ≤ x) : x.tmod 3 = 0 ∨ x.tmod 3 = 1 ∨ x.tmod 3 = 2 := by rw [Int.tmod_eq_emod_of_nonneg h]; omega
theorem sim_f {v : ByteArray} {how : Int} : Sim ⟨v, false, false⟩ [fRow how] ⟨v, false, false⟩ [] := by
  refine Sim.one (a := [.t [], .b true, .s v, .b false, .i 0]) ?_ rfl (fun _ => rfl) rfl (Nat.zero_le 80) rfl rfl
  unfold fRow
  split <;> rfl
theorem sim_fs {v : ByteArray} {how : Int} : ∀ k, Sim ⟨v, false, false⟩ (List.replicate k (fRow how)) ⟨v, false, false⟩ []
  | 0 => Sim.nil
  | k + 1 => Sim.append (L := [fRow how]) sim_f (sim_fs k)
theorem sim_o {v : ByteArray} : Sim ⟨v, false, false⟩ [oRow] ⟨v, true, false⟩ [] :=
  Sim.one (a := [.t [], .b true, .s v, .b false, .i 0]) rfl rfl (fun _ => rfl) rfl (Nat.zero_le 80) rfl rfl
theorem sim_e {v : ByteArray} {how : Int} : Sim ⟨v, true, false⟩ [eRow how] ⟨v, false, false⟩ [] := by
  refine Sim.one (a := [.t [], .b false, .s nos, .b false, .i 0]) ?_ rfl (fun h => by cases h) rfl (Nat.zero_le 80) rfl rfl
  unfold eRow
  split
  · rfl
  · split <;> rfl
theorem ty_ne {o : List Dv} : tyOf o = 1 ∨ tyOf o = 2 ∨ tyOf o = 3 := by
  unfold tyOf
  split
  · exact .inl rfl
  · split
    · exact .inr (.inl rfl)
    · exact .inr (.inr rfl)
theorem sim_c {v : ByteArray} {first : Int} {ch : Dv} {i : Nat} : Sim ⟨v, true, false⟩ [cRow first ch i] ⟨num (first + 1 + i), true, false⟩ [wRow first ch i] := by
  refine Sim.one (a := [.t [wRow first ch i], .b false, .s nos, .b false, .i 0]) ?_ rfl (fun h => by cases h) rfl (by show 1 ≤ 80; decide) rfl rfl
  have h0 : (cc (cRow first ch i) 0).I = 3 := rfl
  have h5 : (cc (cRow first ch i) 5).S = num (first + 1 + i) := rfl
  have h1 : (cc (cRow first ch i) 1).I = tyOf (row ch i) := rfl
  have he : evRow (cc (cRow first ch i) 1).I (cRow first ch i) = wRow first ch i := rfl
  unfold stepW
  rw [if_neg (by simp), h0, if_neg (by decide), if_neg (by decide), if_neg (by simp), if_pos rfl, h5, if_neg num_ne, if_pos (by rw [h1]; exact ty_ne), he]
theorem sim_k {first : Int} {ch : Dv} {i : Nat} : Sim ⟨num (first + 1 + i), true, false⟩ [kRow first ch i] ⟨num (first + 1 + i), true, false⟩ [] := by
  refine Sim.one (a := idle) ?_ rfl (fun h => by cases h) rfl (Nat.zero_le 80) rfl rfl
  have h0 : (cc (kRow first ch i) 0).I = 3 := rfl
  have h5 : (cc (kRow first ch i) 5).S = num (first + 1 + i) := rfl
  have h1 : (cc (kRow first ch i) 1).I = 8 := rfl
  unfold stepW
  rw [if_neg (by simp), h0, if_neg (by decide), if_neg (by decide), if_neg (by simp), if_pos rfl, h5, if_neg num_ne, h1, if_neg (by decide)]
theorem want_append {first : Int} {ch : Dv} {a k m : Nat} : want first ch a k ++ want first ch (a + k) m = want first ch a (k + m) := by
  unfold want
  rw [List.range_add, List.map_append, List.map_map]
  congr 1
  refine List.map_congr_left fun j _ => ?_
  show wRow first ch (a + k + j) = wRow first ch (a + (k + j))
  rw [Nat.add_assoc]
theorem want_one {first : Int} {ch : Dv} {a : Nat} : want first ch a 1 = [wRow first ch a] := rfl
theorem sim_cs {first : Int} {ch : Dv} {a : Nat} : ∀ k : Nat, Sim ⟨num (first + a), true, false⟩ ((List.range k).map fun j => cRow first ch (a + j)) ⟨num (first + ((a + k : Nat) : Int)), true, false⟩ (want first ch a k)
  | 0 => Sim.nil
  | k + 1 => by
    rw [List.range_succ, List.map_append, ← want_append (k := k) (m := 1), want_one]
    refine Sim.append (sim_cs k) ?_
    have := @sim_c (num (first + ((a + k : Nat) : Int))) first ch (a + k)
    have e : first + 1 + ((a + k : Nat) : Int) = first + ((a + (k + 1) : Nat) : Int) := by omega
    rw [e] at this
    exact this
theorem brk_le {ch : Dv} {a : Nat} {b : List Dv} (h : a ≤ ch.T.length) : a + brkN ch a b ≤ ch.T.length := by unfold brkN; omega
theorem sim_brk {first : Int} {ch : Dv} {s : List (List Dv) × Nat} {b : List Dv} {v : ByteArray} {S : List (List Dv)} (h : Sim ⟨v, false, false⟩ s.1 ⟨num (first + s.2), false, false⟩ S) :
    Sim ⟨v, false, false⟩ (brkW first ch s b).1 ⟨num (first + (brkW first ch s b).2), false, false⟩ (S ++ want first ch s.2 (brkN ch s.2 b)) := by
  obtain ⟨L, a⟩ := s
  have h1 := h.append (sim_fs (how := (cc b 1).I) (cc b 2).I.toNat)
  have h2 := h1.append sim_o
  have h3 := h2.append (sim_cs (ch := ch) (brkN ch a b))
  have h4 : Sim ⟨num (first + ((a + brkN ch a b : Nat) : Int)), true, false⟩ (if (cc b 3).B = true ∧ 0 < a + brkN ch a b then [kRow first ch (a + brkN ch a b - 1)] else []) ⟨num (first + ((a + brkN ch a b : Nat) : Int)), true, false⟩ [] := by
    split
    · rename_i hc
      have := @sim_k first ch (a + brkN ch a b - 1)
      have e : first + 1 + ((a + brkN ch a b - 1 : Nat) : Int) = first + ((a + brkN ch a b : Nat) : Int) := by omega
      rw [e] at this
      exact this
    · exact Sim.nil
  have h5 := (h3.append h4).append (sim_e (how := (cc b 1).I))
  simp only [List.append_nil] at h5
  exact h5
theorem ob_succ {first : Int} {ch brs : Dv} {i : Nat} : obAt first ch brs (i + 1) = brkW first ch (obAt first ch brs i) (row brs i) := rfl
theorem sim_ob {first : Int} {ch brs : Dv} : ∀ r, Sim ⟨num first, false, false⟩ (obAt first ch brs r).1 ⟨num (first + (obAt first ch brs r).2), false, false⟩ (want first ch 0 (obAt first ch brs r).2)
  | 0 => by
    show Sim _ [] ⟨num (first + ((0 : Nat) : Int)), false, false⟩ []
    rw [show first + ((0 : Nat) : Int) = first by omega]
    exact Sim.nil
  | r + 1 => by
    have h := sim_brk (b := row brs r) (ch := ch) (sim_ob (first := first) (ch := ch) (brs := brs) r)
    rw [ob_succ]
    have e : want first ch 0 (obAt first ch brs r).2 ++ want first ch (obAt first ch brs r).2 (brkN ch (obAt first ch brs r).2 (row brs r)) = want first ch 0 (brkW first ch (obAt first ch brs r) (row brs r)).2 := by
      have := @want_append first ch 0 (obAt first ch brs r).2 (brkN ch (obAt first ch brs r).2 (row brs r))
      rw [Nat.zero_add] at this
      exact this
    rw [← e]; exact h
theorem ob_at {first : Int} {ch brs : Dv} : ∀ r, (obAt first ch brs r).2 ≤ ch.T.length
  | 0 => Nat.zero_le _
  | r + 1 => brk_le (ob_at r)
theorem fails_len {base : List (List Dv)} {how : Int} {k : Nat} : (fails base how k).length = base.length + k := by unfold fails; simp
theorem sends_len {base : List (List Dv)} {first : Int} {ch : Dv} {a k : Nat} : (sends base first ch a k).length = base.length + k := by unfold sends; simp
theorem ob_len {first : Int} {ch brs : Dv} (hc : ch.T.length ≤ 40) : ∀ r, (∀ j, j < r → (cc (row brs j) 2).I ≤ 3) → (obAt first ch brs r).1.length ≤ 46 * r
  | 0, _ => Nat.zero_le _
  | r + 1, h => by
    have h1 := ob_len (first := first) hc r (fun j hj => h j (by omega))
    have h2 := h r (by omega)
    have h3 : brkN ch (obAt first ch brs r).2 (row brs r) ≤ 40 := by unfold brkN; omega
    show (_ ++ _ ++ [_]).length ≤ _
    rw [List.length_append, List.length_append, sends_len, List.length_append, fails_len]
    have h4 : (if (cc (row brs r) 3).B = true ∧ 0 < (obAt first ch brs r).2 + brkN ch (obAt first ch brs r).2 (row brs r) then [kRow first ch ((obAt first ch brs r).2 + brkN ch (obAt first ch brs r).2 (row brs r) - 1)] else []).length ≤ 1 := by split <;> simp
    simp only [List.length_cons, List.length_nil]
    omega
theorem ob_pos {first : Int} {ch brs : Dv} {r : Nat} (h : 0 < r) : 0 < (obAt first ch brs r).1.length := by
  cases r with
  | zero => omega
  | succ r =>
    show 0 < (_ ++ [_]).length
    rw [List.length_append]
    exact Nat.lt_of_lt_of_le Nat.zero_lt_one (Nat.le_add_left _ _)

/-! ### the steps are such of which the laws speak -/
theorem good_f {how : Int} : okStep (fRow how) = true := by
  unfold fRow
  split <;> rfl
theorem good_o : okStep oRow = true := rfl
theorem good_e {how : Int} : okStep (eRow how) = true := by
  unfold eRow
  split
  · rfl
  · split <;> rfl
theorem good_x {first : Int} {ch : Dv} {i : Nat} {ty : Int} (ho : okObj (row ch i) = true) (hf : 0 ≤ first) (h2 : first ≤ 1048576) (hi : i ≤ 1000) (ht : ty = 1 ∨ ty = 2 ∨ ty = 3 ∨ ty = 8) : okStep (xRow first (row ch i) i ty) = true := by
  have hs : ((num (first + 1 + i)).size : Int) ≤ 20 := by
    have := nu_stop (n := first + 1 + i) (by omega) (by omega)
    rw [num_size]; omega
  generalize row ch i = l at *
  simp only [okObj, Bool.and_eq_true, Bool.not_eq_true', decide_eq_true_eq] at ho
  obtain ⟨⟨⟨⟨⟨⟨⟨⟨a0, a1⟩, a2⟩, a3⟩, a5⟩, a4⟩, ap⟩, a7⟩, a6⟩ := ho
  unfold okStep
  have e0 : (cc (xRow first l i ty) 0).I = 3 := rfl
  have e1 : (cc (xRow first l i ty) 1).I = ty := rfl
  have e2 : cc (xRow first l i ty) 2 = cc l 0 := rfl
  have e3 : cc (xRow first l i ty) 3 = cc l 1 := rfl
  have e4 : cc (xRow first l i ty) 4 = cc l 2 := rfl
  have e5 : (cc (xRow first l i ty) 5).S = num (first + 1 + i) := rfl
  have e6 : cc (xRow first l i ty) 6 = cc l 4 := rfl
  have e7 : cc (xRow first l i ty) 7 = cc l 5 := rfl
  have e8 : cc (xRow first l i ty) 8 = cc l 6 := rfl
  have e9 : cc (xRow first l i ty) 9 = cc l 7 := rfl
  have e10 : (cc (xRow first l i ty) 10).I = 0 := rfl
  have e11 : (cc (xRow first l i ty) 11).I = 0 := rfl
  rw [e0, e1, e2, e3, e4, e5, e6, e7, e8, e9, e10, e11, ap, a6, a7]
  simp only [decide_eq_true a0, decide_eq_true a1, decide_eq_true a2, decide_eq_true hs, decide_eq_true a5, decide_eq_true a4]
  rcases ht with rfl | rfl | rfl | rfl <;> rfl
theorem good_fs {base : List (List Dv)} {how : Int} {k : Nat} (h : ∀ l ∈ base, okStep l = true) : ∀ l ∈ fails base how k, okStep l = true := by
  intro l hl
  rcases List.mem_append.1 hl with hl | hl
  · exact h l hl
  · rw [List.eq_of_mem_replicate hl]; exact good_f
theorem good_cs {base : List (List Dv)} {first : Int} {ch : Dv} {a k : Nat} (h : ∀ l ∈ base, okStep l = true) (hf : 0 ≤ first) (h2 : first ≤ 1048576) (hc : ch.T.length ≤ 40) (ho : ∀ j, j < ch.T.length → okObj (row ch j) = true) (hk : a + k ≤ ch.T.length) : ∀ l ∈ sends base first ch a k, okStep l = true := by
  intro l hl
  rcases List.mem_append.1 hl with hl | hl
  · exact h l hl
  · obtain ⟨j, hj, rfl⟩ := List.mem_map.1 hl
    rw [List.mem_range] at hj
    refine good_x (ho _ (by omega)) hf h2 (by omega) ?_
    rcases @ty_ne (row ch (a + j)) with h | h | h
    · exact .inl h
    · exact .inr (.inl h)
    · exact .inr (.inr (.inl h))
theorem good_ob {first : Int} {ch brs : Dv} (hf : 0 ≤ first) (h2 : first ≤ 1048576) (hc : ch.T.length ≤ 40) (ho : ∀ j, j < ch.T.length → okObj (row ch j) = true) : ∀ r, ∀ l ∈ (obAt first ch brs r).1, okStep l = true
  | 0, l, hl => by cases hl
  | r + 1, l, hl => by
    have hb := @brk_le ch (obAt first ch brs r).2 (row brs r) (ob_at r)
    rcases List.mem_append.1 hl with hl | hl
    · rcases List.mem_append.1 hl with hl | hl
      · refine good_cs (fun l hl => ?_) hf h2 hc ho hb l hl
        rcases List.mem_append.1 hl with hl | hl
        · exact good_fs (good_ob hf h2 hc ho r) l hl
        · rw [List.mem_singleton.1 hl]; exact good_o
      · split at hl
        · rename_i hp
          rw [List.mem_singleton.1 hl]
          exact good_x (ho _ (by omega)) hf h2 (by omega) (.inr (.inr (.inr rfl)))
        · cases hl
    · rw [List.mem_singleton.1 hl]; exact good_e

/-! ### the whole -/
def allR (first : Int) (ch brs : Dv) : List (List Dv) := sends ((obAt first ch brs brs.T.length).1 ++ [oRow]) first ch (obAt first ch brs brs.T.length).2 (ch.T.length - (obAt first ch brs brs.T.length).2)
theorem sim_all {first : Int} {ch brs : Dv} : ∃ s, Sim ⟨num first, false, false⟩ (allR first ch brs) s (want first ch 0 ch.T.length) := by
  have h := ((sim_ob (first := first) (ch := ch) (brs := brs) brs.T.length).append sim_o).append (sim_cs (ch := ch) (ch.T.length - (obAt first ch brs brs.T.length).2))
  rw [List.append_nil] at h
  have e : want first ch 0 (obAt first ch brs brs.T.length).2 ++ want first ch (obAt first ch brs brs.T.length).2 (ch.T.length - (obAt first ch brs brs.T.length).2) = want first ch 0 ch.T.length := by
    have := @want_append first ch 0 (obAt first ch brs brs.T.length).2 (ch.T.length - (obAt first ch brs brs.T.length).2)
    rw [Nat.zero_add] at this
    rw [this]
    have := @ob_at first ch brs brs.T.length
    congr 1; omega
  rw [e] at h
  exact ⟨_, h⟩
theorem whole_ok {first : Int} {ch brs : Dv} : okW (num first) (answers (num first) (allR first ch brs)).T = true := by
  obtain ⟨s, h⟩ := @sim_all first ch brs
  rw [answers_run]; exact h.ok
theorem whole_sent {first : Int} {ch brs : Dv} : sentsOf (answers (num first) (allR first ch brs)).T = want first ch 0 ch.T.length := by
  obtain ⟨s, h⟩ := @sim_all first ch brs
  rw [answers_run]; exact h.sent
theorem want_len {first : Int} {ch : Dv} {a k : Nat} : (want first ch a k).length = k := by unfold want; simp
theorem whole_len {first : Int} {ch brs : Dv} (hc : ch.T.length ≤ 40) (hb : brs.T.length ≤ 20) (h : ∀ j, j < brs.T.length → (cc (row brs j) 2).I ≤ 3) : (allR first ch brs).length ≤ 1000 := by
  have := ob_len (first := first) (brs := brs) hc brs.T.length h
  unfold allR
  rw [sends_len, List.length_append]
  simp only [List.length_cons, List.length_nil]
  omega
theorem whole_good {first : Int} {ch brs : Dv} (hf : 0 ≤ first) (h2 : first ≤ 1048576) (hc : ch.T.length ≤ 40) (ho : ∀ j, j < ch.T.length → okObj (row ch j) = true) : ∀ l ∈ allR first ch brs, okStep l = true := by
  have := @ob_at first ch brs brs.T.length
  refine good_cs (fun l hl => ?_) hf h2 hc ho (by omega)
  rcases List.mem_append.1 hl with hl | hl
  · exact good_ob hf h2 hc ho _ l hl
  · rw [List.mem_singleton.1 hl]; exact good_o
theorem okW_at : ∀ {v : ByteArray} {l : List (List Dv)} {i : Nat}, okW v l = true → i < l.length → (cc ((l[i]?).getD []) 3).B = false ∧ ((cc ((l[i]?).getD []) 1).B = true → (cc ((l[i]?).getD []) 2).S.toList = (verAt v (l.take i)).toList) ∧ noErr (cc ((l[i]?).getD []) 0).T = true ∧ (cc ((l[i]?).getD []) 0).T.length ≤ 80
  | _, [], _, _, h => by simp at h
  | v, a :: r, 0, h, _ => by
    simp only [okW, Bool.and_eq_true, Bool.or_eq_true, Bool.not_eq_true', decide_eq_true_eq] at h
    obtain ⟨⟨⟨⟨h1, h2⟩, h3⟩, h4⟩, _⟩ := h
    refine ⟨h1, fun hb => ?_, h3, h4⟩
    rcases h2 with h2 | h2
    · exact absurd hb (by rw [show ((a :: r)[0]?.getD []) = a from rfl, h2]; decide)
    · exact eq_of_beq h2
  | v, a :: r, i + 1, h, hi => by
    simp only [okW, Bool.and_eq_true] at h
    exact okW_at (v := verOf v (cc a 0).T) (l := r) (i := i) h.2 (by simpa using hi)
end Go.Proofs.Ytckdphmpafopmaa.sxRetrying

namespace Go.Proofs.Ytckdphmpafopmaa.sxRetrying
open Go.Sx Go.RowKit
set_option linter.unusedVariables false
set_option linter.unusedSimpArgs false
set_option maxRecDepth 100000

theorem r_fits18 : fits18.r = 2020 := rfl
theorem r_nuY : nuY.r = 2021 := rfl
theorem r_obY : obY.r = 2022 := rfl
theorem r_fK : fK.r = 2023 := rfl
theorem r_hK : hK.r = 2024 := rfl
theorem r_iK : iK.r = 2025 := rfl
theorem r_jK : jK.r = 2026 := rfl
theorem r_aK : aK.r = 2027 := rfl
theorem r_kK : kK.r = 2028 := rfl
theorem r_wK : wK.r = 2029 := rfl
theorem r_tlY : tlY.r = 2015 := rfl
theorem cast_lt {i n : Nat} : ((i : Int) < (n : Int)) = (i < n) := by simp
theorem toNat_succ (i : Nat) : ((i : Int) + 1).toNat = i + 1 := by omega
section
variable {e : Env} {a b : E}
theorem d_chr : (E.o1 .chr a).den e = .s (chB (a.den e).I) := id rfl
theorem d_cat : (E.o2 .cat a b).den e = .s ((a.den e).S ++ (b.den e).S) := id rfl
theorem d_sub : (E.o2 .sub a b).den e = .i ((a.den e).I - (b.den e).I) := id rfl
theorem d_mn : (E.o2 .mn a b).den e = .i (if (b.den e).I < (a.den e).I then (b.den e).I else (a.den e).I) := id rfl
theorem d_rem : (E.o2 .rem a b).den e = .i ((a.den e).I.tmod (b.den e).I) := id rfl
theorem d_quo : (E.o2 .quo a b).den e = .i ((a.den e).I.tdiv (b.den e).I) := id rfl
theorem d_size : (E.o1 .size a).den e = .i ((a.den e).S.size : Int) := id rfl
end
section
variable {o : Env} {i : Nat} {u : Nat → Value}
theorem fits18_all (hu : o.uf = UF) (hi : i ≤ stop (B18 (o.v 7100)) (o.v 7100).T.length) (hn : ((o.v 7100).T.length : Int) ≤ 9223372036854775807) : AllL (fits18.env o u i) fits18L0 := by
  have h1 := @stop_yes (B18 (o.v 7100)) (o.v 7100).T.length i hi
  have h2 := @stop_no (B18 (o.v 7100)) (o.v 7100).T.length i hi
  have h3 := @stop_end (B18 (o.v 7100)) (o.v 7100).T.length i hi
  simp only [B18, bad18] at h1 h2
  simp only [fits18L0, allL_cons, allL_nil, and_true]
  and_intros
  all_goals intro h
  all_goals simp only [hold_cons_iff, hold_nil_iff, allT_cons, allT_nil, ob_e, ob_t, dB_lt, dB_le, dB_ieq, dB_seq, dB_not, dB_beq, dB_bl, dB_and, dB_or, dI_il, dI_add, dI_sub, dI_size, dI_tlen, dI_rem, dI_quo, dI_mn, dS_sl, d_v, d_uf, d_cel, d_cell, d_il, d_bl, d_sl, d_add, d_sub, d_mn, d_take, d_chr, d_cat, d_rem, d_quo, d_size, d_tlen, dT_take, dT_cat, ar_0, ar_1, ar_2, ar_3, ar_4, LoopY.env, if_true, if_false, Nat.reduceEqDiff, I_i, B_b, S_s, T_t, T_i, T_cel, Int.toNat_natCast, toNat_succ, most, decide_eq_true_eq, decide_eq_false_iff_not, and_true, Bool.not_eq_true', Bool.or_eq_true, Bool.or_eq_false_iff, Bool.not_eq_false', Bool.and_eq_true, Bool.and_eq_false_iff, cast_lt, hu, r_fits18, UF_1, UF_2, UF_70, UF_71, anyB] at h h1 h2 h3 ⊢
  all_goals grind
theorem jK_all (hu : o.uf = UF) (hi : i ≤ stop (B86 (o.v 7150)) (o.v 7150).T.length) (hn : ((o.v 7150).T.length : Int) ≤ 40) : AllL (jK.env o u i) jKL0 := by
  have h1 := @stop_yes (B86 (o.v 7150)) (o.v 7150).T.length i hi
  have h2 := @stop_no (B86 (o.v 7150)) (o.v 7150).T.length i hi
  have h3 := @stop_end (B86 (o.v 7150)) (o.v 7150).T.length i hi
  simp only [B86, okObj] at h1 h2
  simp only [jKL0, allL_cons, allL_nil, and_true]
  and_intros
  all_goals intro h
  all_goals simp only [hold_cons_iff, hold_nil_iff, allT_cons, allT_nil, ob_e, ob_t, dB_lt, dB_le, dB_ieq, dB_seq, dB_not, dB_beq, dB_bl, dB_and, dB_or, dI_il, dI_add, dI_sub, dI_size, dI_tlen, dI_rem, dI_quo, dI_mn, dS_sl, d_v, d_uf, d_cel, d_cell, d_il, d_bl, d_sl, d_add, d_sub, d_mn, d_take, d_chr, d_cat, d_rem, d_quo, d_size, d_tlen, dT_take, dT_cat, ar_0, ar_1, ar_2, ar_3, ar_4, LoopY.env, if_true, if_false, Nat.reduceEqDiff, I_i, B_b, S_s, T_t, T_i, T_cel, Int.toNat_natCast, toNat_succ, most, decide_eq_true_eq, decide_eq_false_iff_not, and_true, Bool.not_eq_true', Bool.or_eq_true, Bool.or_eq_false_iff, Bool.not_eq_false', Bool.and_eq_true, Bool.and_eq_false_iff, cast_lt, hu, r_jK, UF_7, UF_8, UF_86, UF_87, anyB] at h h1 h2 h3 ⊢
  all_goals grind
theorem tlY_all (hu : o.uf = UF) (hi : i ≤ stop (Btl (o.v 7065) (o.v 7066)) (o.v 7065).T.length) (hn : ((o.v 7065).T.length : Int) ≤ 9223372036854775807) (hm : ((o.v 7066).T.length : Int) ≤ 9223372036854775807) : AllL (tlY.env o u i) tlYL0 := by
  have h1 := @stop_yes (Btl (o.v 7065) (o.v 7066)) (o.v 7065).T.length i hi
  have h2 := @stop_no (Btl (o.v 7065) (o.v 7066)) (o.v 7065).T.length i hi
  have h3 := @stop_end (Btl (o.v 7065) (o.v 7066)) (o.v 7065).T.length i hi
  have h4 := @stop_le (Bix (o.v 7066) (cc (row (o.v 7065) i) 0) (cc (row (o.v 7065) i) 1)) (o.v 7066).T.length
  simp only [Btl] at h1 h2
  simp only [tlYL0, allL_cons, allL_nil, and_true]
  and_intros
  all_goals intro h
  all_goals simp only [hold_cons_iff, hold_nil_iff, allT_cons, allT_nil, ob_e, ob_t, dB_lt, dB_le, dB_ieq, dB_seq, dB_not, dB_beq, dB_bl, dB_and, dB_or, dI_il, dI_add, dI_sub, dI_size, dI_tlen, dI_rem, dI_quo, dI_mn, dS_sl, d_v, d_uf, d_cel, d_cell, d_il, d_bl, d_sl, d_add, d_sub, d_mn, d_take, d_chr, d_cat, d_rem, d_quo, d_size, d_tlen, dT_take, dT_cat, ar_0, ar_1, ar_2, ar_3, ar_4, LoopY.env, if_true, if_false, Nat.reduceEqDiff, I_i, B_b, S_s, T_t, T_i, T_cel, Int.toNat_natCast, toNat_succ, most, decide_eq_true_eq, decide_eq_false_iff_not, and_true, Bool.not_eq_true', Bool.or_eq_true, Bool.or_eq_false_iff, Bool.not_eq_false', Bool.and_eq_true, Bool.and_eq_false_iff, cast_lt, hu, r_tlY, UF_60, UF_61, UF_96, UF_97, anyB] at h h1 h2 h3 h4 ⊢
  all_goals grind
theorem nu_le {n : Int} (h : 0 ≤ n) : ∀ k, (nuAt n k).1 ≤ n
  | 0 => Int.le_refl _
  | k + 1 => by
    have h1 := nu_le h k
    have h2 := (nu_inv h k).1
    show (nuAt n k).1.tdiv 10 ≤ n
    rw [Int.tdiv_eq_ediv_of_nonneg h2]
    omega
theorem nuY_all (hu : o.uf = UF) (h0 : 0 ≤ (o.v 7102).I) (hn : (o.v 7102).I ≤ 1000000000000000) (hi : i ≤ nuN (o.v 7102).I) : AllL (nuY.env o u i) nuYL0 := by
  have h1 := fun h => @nu_go (o.v 7102).I i h
  have h2 := nu_last h0 hn
  have h3 := (nu_inv h0 i).1
  have h4 := @nu_size (o.v 7102).I i
  have h5 := nu_stop h0 hn
  have h6 : (nuAt (o.v 7102).I (i + 1)).1 = (nuAt (o.v 7102).I i).1.tdiv 10 := rfl
  have h7 : (nuAt (o.v 7102).I (i + 1)).2 = chB (48 + (nuAt (o.v 7102).I i).1.tmod 10) ++ (nuAt (o.v 7102).I i).2 := rfl
  have h8 : i = nuN (o.v 7102).I ∨ i < nuN (o.v 7102).I := by omega
  have h9 := nu_le h0 i
  have h10 : ((nuAt (o.v 7102).I i).1.tmod 10) = (nuAt (o.v 7102).I i).1 % 10 := Int.tmod_eq_emod_of_nonneg h3
  have h11 : ((nuAt (o.v 7102).I i).1.tdiv 10) = (nuAt (o.v 7102).I i).1 / 10 := Int.tdiv_eq_ediv_of_nonneg h3
  have h12 := @chB_size (48 + (nuAt (o.v 7102).I i).1.tmod 10)
  simp only [nuYL0, allL_cons, allL_nil, and_true]
  and_intros
  all_goals intro h
  all_goals simp only [hold_cons_iff, hold_nil_iff, allT_cons, allT_nil, ob_e, ob_t, dB_lt, dB_le, dB_ieq, dB_seq, dB_not, dB_beq, dB_bl, dB_and, dB_or, dI_il, dI_add, dI_sub, dI_size, dI_tlen, dI_rem, dI_quo, dI_mn, dS_sl, d_v, d_uf, d_cel, d_cell, d_il, d_bl, d_sl, d_add, d_sub, d_mn, d_take, d_chr, d_cat, d_rem, d_quo, d_size, d_tlen, dT_take, dT_cat, ar_0, ar_1, ar_2, ar_3, ar_4, LoopY.env, if_true, if_false, Nat.reduceEqDiff, I_i, B_b, S_s, T_t, T_i, T_cel, Int.toNat_natCast, toNat_succ, most, decide_eq_true_eq, decide_eq_false_iff_not, and_true, Bool.not_eq_true', Bool.or_eq_true, Bool.or_eq_false_iff, Bool.not_eq_false', Bool.and_eq_true, Bool.and_eq_false_iff, cast_lt, hu, r_nuY, UF_72, UF_73, UF_74, UF_75, UF_76, h6, h7, h10, h11] at h h12 ⊢
  all_goals clear h6 h7 h10 h11
  all_goals grind
theorem fails_succ {base : List (List Dv)} {how : Int} {k : Nat} : fails base how (k + 1) = fails base how k ++ [fRow how] := by
  unfold fails
  rw [List.replicate_succ', List.append_assoc]
theorem fails_zero {base : List (List Dv)} {how : Int} : fails base how 0 = base := List.append_nil _
theorem sends_succ {base : List (List Dv)} {first : Int} {ch : Dv} {a k : Nat} : sends base first ch a (k + 1) = sends base first ch a k ++ [cRow first ch (a + k)] := by
  unfold sends
  rw [List.range_succ, List.map_append, List.append_assoc]; rfl
theorem hd_1 {a : List Dv} : [a].head?.getD [] = a := id rfl
theorem hd_0 : ([] : List (List Dv)).head?.getD [] = [] := id rfl
theorem nosL : (ByteArray.mk #[]).toList = [] := by decide +kernel
theorem cc_0 {a : Dv} {l : List Dv} : cc (a :: l) 0 = a := id rfl
theorem cc_s {a : Dv} {l : List Dv} {k : Nat} : cc (a :: l) (k + 1) = cc l k := id rfl
theorem row_1 {r : List Dv} : row (.t [r]) 0 = r := id rfl
theorem f_at {how : Int} {k : Nat} : cc (fRow how) k = cc [.i 2, .i 0, .s nos, .s nos, .s nos, .s nos, .i 0, .s nos, .b false, .b false, .i (if how.tmod 2 = 0 then 18 else 98), .i 0] k := rfl
def fKL : Nat → List (Facts × List Ob)
  | 0 => fKL0
  | _ => fKL1
theorem fK_all (hu : o.uf = UF) (m : Nat) (h0 : 0 ≤ (o.v 7122).I) (h3 : (o.v 7122).I ≤ 3) (hb : ((o.v 7120).T.length : Int) ≤ 10000) (hh : 0 ≤ (o.v 7121).I) (hi : (i : Int) ≤ (o.v 7122).I) (hm : m = 0 → i = 0 ∧ (o.v 7120).T = []) (hp : m = 1 → 0 < (o.v 7120).T.length + i) : m ≤ 1 → AllL (fK.env o u i) (fKL m) := by
  have h4 := tmod2 (o.v 7121).I hh
  have h5 : (o.v 7122).I.toNat = i ∨ (i : Int) < (o.v 7122).I := by omega
  intro hm1
  have : m = 0 ∨ m = 1 := by omega
  rcases this with rfl | rfl
  · obtain ⟨rfl, hb0⟩ := hm rfl
    simp only [fKL, fKL0, allL_cons, allL_nil, and_true]
    and_intros
    all_goals intro h
    all_goals simp only [hold_cons_iff, hold_nil_iff, allT_cons, allT_nil, ob_e, ob_t, dB_lt, dB_le, dB_ieq, dB_seq, dB_not, dB_beq, dB_bl, dB_and, dB_or, dI_il, dI_add, dI_sub, dI_size, dI_tlen, dI_rem, dI_quo, dI_mn, dS_sl, d_v, d_uf, d_cel, d_cell, d_il, d_bl, d_sl, d_add, d_sub, d_mn, d_take, d_chr, d_cat, d_rem, d_quo, d_size, d_tlen, dT_take, dT_cat, ar_0, ar_1, ar_2, ar_3, ar_4, LoopY.env, if_true, if_false, Nat.reduceEqDiff, I_i, B_b, S_s, T_t, T_i, T_cel, Int.toNat_natCast, toNat_succ, most, decide_eq_true_eq, decide_eq_false_iff_not, and_true, Bool.not_eq_true', Bool.or_eq_true, Bool.or_eq_false_iff, Bool.not_eq_false', Bool.and_eq_true, Bool.and_eq_false_iff, cast_lt, hu, r_fK, UF_84, fails_succ, fails_zero, hb0, Int.toNat_zero, Nat.zero_add, List.nil_append, hd_1, hd_0, fRow, row_1, cc_0, cc_s, nos, List.length_cons, List.length_nil] at h h5 ⊢
    all_goals first | grind | (simp_all [nos]; done) | skip
  · replace hp := hp rfl
    simp only [fKL, fKL1, allL_cons, allL_nil, and_true]
    and_intros
    all_goals intro h
    all_goals simp only [hold_cons_iff, hold_nil_iff, allT_cons, allT_nil, ob_e, ob_t, dB_lt, dB_le, dB_ieq, dB_seq, dB_not, dB_beq, dB_bl, dB_and, dB_or, dI_il, dI_add, dI_sub, dI_size, dI_tlen, dI_rem, dI_quo, dI_mn, dS_sl, d_v, d_uf, d_cel, d_cell, d_il, d_bl, d_sl, d_add, d_sub, d_mn, d_take, d_chr, d_cat, d_rem, d_quo, d_size, d_tlen, dT_take, dT_cat, ar_0, ar_1, ar_2, ar_3, ar_4, LoopY.env, if_true, if_false, Nat.reduceEqDiff, I_i, B_b, S_s, T_t, T_i, T_cel, Int.toNat_natCast, toNat_succ, most, decide_eq_true_eq, decide_eq_false_iff_not, and_true, Bool.not_eq_true', Bool.or_eq_true, Bool.or_eq_false_iff, Bool.not_eq_false', Bool.and_eq_true, Bool.and_eq_false_iff, cast_lt, hu, r_fK, UF_84, fails_succ, fails_len, hd_1, hd_0, fRow, List.length_append, List.length_cons, List.length_nil] at h h5 ⊢
    all_goals first | grind | (simp_all [nos]; done) | skip
theorem bytes10 {s : ByteArray} : s.toList = s.toList := rfl
/-- A number's last figure and the rest. -/
theorem nu_fin {n : Int} (h : 0 ≤ n) (hn : n ≤ 1000000000000000) : 0 ≤ (nuAt n (nuN n)).1 ∧ (nuAt n (nuN n)).1 ≤ 9 ∧ (nuAt n (nuN n)).2.size ≤ 15 ∧ nos.size = 0 :=
  ⟨(nu_inv h _).1, nu_last h hn, by rw [nu_size]; exact nu_stop h hn, rfl⟩
theorem hK_all (hu : o.uf = UF) (hf : 1 ≤ (o.v 7131).I) (hf2 : (o.v 7131).I ≤ 1048576) (ha : 0 ≤ (o.v 7133).I) (ha2 : (o.v 7133).I ≤ ((o.v 7132).T.length : Int)) (hc : ((o.v 7132).T.length : Int) ≤ 40) (hb : ((o.v 7130).T.length : Int) ≤ 10010) (hn : 0 ≤ (o.v 7134).I)
    (hi : (i : Int) ≤ (o.v 7134).I) (hj : (o.v 7133).I + i ≤ ((o.v 7132).T.length : Int)) : AllL (hK.env o u i) hKL0 := by
  have hq := nu_fin (n := (o.v 7131).I + 1 + ((o.v 7133).I + i)) (by omega) (by omega)
  have hta : ((o.v 7133).I.toNat : Int) = (o.v 7133).I := Int.toNat_of_nonneg ha
  have hti : ((o.v 7133).I + i).toNat = (o.v 7133).I.toNat + i := by omega
  have hs : ∀ z, (chB z).size = 1 := fun z => rfl
  have hm3 := tmod3 ((cc (row (o.v 7132) ((o.v 7133).I.toNat + i)) 5).S.size : Int) (by omega)
  simp only [hKL0, allL_cons, allL_nil, and_true]
  and_intros
  all_goals intro h
  all_goals simp only [hold_cons_iff, hold_nil_iff, allT_cons, allT_nil, ob_e, ob_t, dB_lt, dB_le, dB_ieq, dB_seq, dB_not, dB_beq, dB_bl, dB_and, dB_or, dI_il, dI_add, dI_sub, dI_size, dI_tlen, dI_rem, dI_quo, dI_mn, dS_sl, d_v, d_uf, d_cel, d_cell, d_il, d_bl, d_sl, d_add, d_sub, d_mn, d_take, d_chr, d_cat, d_rem, d_quo, d_size, d_tlen, dT_take, dT_cat, ar_0, ar_1, ar_2, ar_3, ar_4, LoopY.env, if_true, if_false, Nat.reduceEqDiff, I_i, B_b, S_s, T_t, T_i, T_cel, Int.toNat_natCast, toNat_succ, most, decide_eq_true_eq, decide_eq_false_iff_not, and_true, Bool.not_eq_true', Bool.or_eq_true, Bool.or_eq_false_iff, Bool.not_eq_false', Bool.and_eq_true, Bool.and_eq_false_iff, cast_lt, hu, r_hK, UF_72, UF_73, UF_74, UF_75, UF_85, nuAt, Int.toNat_zero, hti, sends_succ, sends_len, hd_1, hd_0, cRow, xRow, num, tyOf, hta, Int.natCast_add, List.length_append, List.length_cons, List.length_nil, hs, nos] at h hq ⊢
  all_goals first | grind | (simp_all; done) | skip
theorem iK_all (hu : o.uf = UF) (hf : 1 ≤ (o.v 7141).I) (hf2 : (o.v 7141).I ≤ 1048576) (ha : 0 ≤ (o.v 7143).I) (ha2 : (o.v 7143).I ≤ ((o.v 7142).T.length : Int)) (hc : ((o.v 7142).T.length : Int) ≤ 40) (hb : ((o.v 7140).T.length : Int) ≤ 10010)
    (hj : (o.v 7143).I + i ≤ ((o.v 7142).T.length : Int)) : AllL (iK.env o u i) iKL0 := by
  have hq := nu_fin (n := (o.v 7141).I + 1 + ((o.v 7143).I + i)) (by omega) (by omega)
  have hta : ((o.v 7143).I.toNat : Int) = (o.v 7143).I := Int.toNat_of_nonneg ha
  have hti : ((o.v 7143).I + i).toNat = (o.v 7143).I.toNat + i := by omega
  have hs : ∀ z, (chB z).size = 1 := fun z => rfl
  have hm3 := tmod3 ((cc (row (o.v 7142) ((o.v 7143).I.toNat + i)) 5).S.size : Int) (by omega)
  simp only [iKL0, allL_cons, allL_nil, and_true]
  and_intros
  all_goals intro h
  all_goals simp only [hold_cons_iff, hold_nil_iff, allT_cons, allT_nil, ob_e, ob_t, dB_lt, dB_le, dB_ieq, dB_seq, dB_not, dB_beq, dB_bl, dB_and, dB_or, dI_il, dI_add, dI_sub, dI_size, dI_tlen, dI_rem, dI_quo, dI_mn, dS_sl, d_v, d_uf, d_cel, d_cell, d_il, d_bl, d_sl, d_add, d_sub, d_mn, d_take, d_chr, d_cat, d_rem, d_quo, d_size, d_tlen, dT_take, dT_cat, ar_0, ar_1, ar_2, ar_3, ar_4, LoopY.env, if_true, if_false, Nat.reduceEqDiff, I_i, B_b, S_s, T_t, T_i, T_cel, Int.toNat_natCast, toNat_succ, most, decide_eq_true_eq, decide_eq_false_iff_not, and_true, Bool.not_eq_true', Bool.or_eq_true, Bool.or_eq_false_iff, Bool.not_eq_false', Bool.and_eq_true, Bool.and_eq_false_iff, cast_lt, hu, r_iK, UF_72, UF_73, UF_74, UF_75, UF_85, nuAt, Int.toNat_zero, hti, sends_succ, sends_len, hd_1, hd_0, cRow, xRow, num, tyOf, hta, Int.natCast_add, List.length_append, List.length_cons, List.length_nil, hs, nos] at h hq ⊢
  all_goals first | grind | (simp_all; done) | skip
theorem ten {r : List Dv} (h : Nat.beq r.length 10 = true) : [cc r 0, cc r 1, cc r 2, cc r 3, cc r 4, cc r 5, cc r 6, cc r 7, cc r 8, cc r 9] = r := by
  have h := Nat.eq_of_beq_eq_true h
  match r, h with
  | [a0, a1, a2, a3, a4, a5, a6, a7, a8, a9], _ => rfl
theorem noErr_at {d : Dv} (h : noErr d.T = true) {i : Nat} (hi : i < d.T.length) : (cc (row d i) 1).I = 0 ∧ [cc (row d i) 0, cc (row d i) 1, cc (row d i) 2, cc (row d i) 3, cc (row d i) 4, cc (row d i) 5, cc (row d i) 6, cc (row d i) 7, cc (row d i) 8, cc (row d i) 9] = row d i := by
  have hr : row d i = d.T[i] := by unfold row; rw [List.getElem?_eq_getElem hi]; rfl
  have := List.all_eq_true.1 h _ (List.getElem_mem hi)
  rw [← hr, Bool.and_eq_true] at this
  exact ⟨of_decide_eq_true this.1, ten this.2⟩
theorem take_row {d : Dv} {i : Nat} (hi : i < d.T.length) : d.T.take (i + 1) = d.T.take i ++ [row d i] := by
  rw [List.take_add_one, List.getElem?_eq_getElem hi]
  have hr : row d i = d.T[i] := by unfold row; rw [List.getElem?_eq_getElem hi]; rfl
  rw [hr]; rfl
theorem verOf_one {v : ByteArray} {l : List (List Dv)} {r : List Dv} : verOf v (l ++ [r]) = (cc r 5).S := by
  unfold verOf; rw [List.foldl_append]; rfl
theorem verOf_nil {v : ByteArray} : verOf v [] = v := id rfl
theorem verOf_sing {v : ByteArray} {r : List Dv} : verOf v [r] = (cc r 5).S := id rfl
theorem sentsOf_one {l : List (List Dv)} {a : List Dv} : sentsOf (l ++ [a]) = sentsOf l ++ (cc a 0).T := by
  rw [sentsOf_append]; congr 1; show (cc a 0).T ++ [] = _; rw [List.append_nil]
theorem verAt_one {v : ByteArray} {l : List (List Dv)} {a : List Dv} : verAt v (l ++ [a]) = verOf (verAt v l) (cc a 0).T := by
  rw [verAt_append]; rfl
def kKL : Nat → List (Facts × List Ob)
  | 0 => kKL0
  | _ => kKL1
theorem kK_all (hu : o.uf = UF) (m : Nat) (he : noErr (o.v 7171).T = true) (hl : ((o.v 7171).T.length : Int) ≤ 80) (hb : ((o.v 7170).T.length : Int) ≤ 100000) (hi : i ≤ (o.v 7171).T.length) (hm : m = 0 → i = 0 ∧ (o.v 7170).T = []) (hp : m = 1 → 0 < (o.v 7170).T.length + i) : m ≤ 1 → AllL (kK.env o u i) (kKL m) := by
  have h1 := fun h => @noErr_at (o.v 7171) he i h
  have h2 := fun h => @take_row (o.v 7171) i h
  have h3 := fun h => List.take_of_length_le (l := (o.v 7171).T) (i := i) h
  have h4 : List.length ((o.v 7171).T.take i) = i := by rw [List.length_take]; omega
  intro hm1
  have : m = 0 ∨ m = 1 := by omega
  rcases this with rfl | rfl
  · obtain ⟨rfl, hb0⟩ := hm rfl
    clear hp hm hm1
    simp only [kKL, kKL0, allL_cons, allL_nil, and_true]
    and_intros
    all_goals intro h
    all_goals simp only [hold_cons_iff, hold_nil_iff, allT_cons, allT_nil, ob_e, ob_t, dB_lt, dB_le, dB_ieq, dB_seq, dB_not, dB_beq, dB_bl, dB_and, dB_or, dI_il, dI_add, dI_sub, dI_size, dI_tlen, dI_rem, dI_quo, dI_mn, dS_sl, d_v, d_uf, d_cel, d_cell, d_il, d_bl, d_sl, d_add, d_sub, d_mn, d_take, d_chr, d_cat, d_rem, d_quo, d_size, d_tlen, dT_take, dT_cat, ar_0, ar_1, ar_2, ar_3, ar_4, LoopY.env, if_true, if_false, Nat.reduceEqDiff, I_i, B_b, S_s, T_t, T_i, T_cel, Int.toNat_natCast, toNat_succ, most, decide_eq_true_eq, decide_eq_false_iff_not, and_true, Bool.not_eq_true', Bool.or_eq_true, Bool.or_eq_false_iff, Bool.not_eq_false', Bool.and_eq_true, Bool.and_eq_false_iff, cast_lt, hu, r_kK, UF_91, UF_92, UF_93, hb0, Int.toNat_zero, Nat.zero_add, List.nil_append, hd_1, hd_0, List.length_append, List.length_cons, List.length_nil] at h h1 h2 h3 ⊢
    all_goals by_cases hlt : 0 < (o.v 7171).T.length
    all_goals try have g1 := h1 hlt
    all_goals try rw [h2 hlt]
    all_goals clear h1 h2
    all_goals try simp only [verOf_one, verOf_sing, List.take_zero, List.nil_append, row_1, List.length_cons, List.length_nil] at h ⊢
    all_goals first | grind | (simp_all; done) | skip
  · replace hp := hp rfl
    clear hm hm1
    simp only [kKL, kKL1, allL_cons, allL_nil, and_true]
    and_intros
    all_goals intro h
    all_goals simp only [hold_cons_iff, hold_nil_iff, allT_cons, allT_nil, ob_e, ob_t, dB_lt, dB_le, dB_ieq, dB_seq, dB_not, dB_beq, dB_bl, dB_and, dB_or, dI_il, dI_add, dI_sub, dI_size, dI_tlen, dI_rem, dI_quo, dI_mn, dS_sl, d_v, d_uf, d_cel, d_cell, d_il, d_bl, d_sl, d_add, d_sub, d_mn, d_take, d_chr, d_cat, d_rem, d_quo, d_size, d_tlen, dT_take, dT_cat, ar_0, ar_1, ar_2, ar_3, ar_4, LoopY.env, if_true, if_false, Nat.reduceEqDiff, I_i, B_b, S_s, T_t, T_i, T_cel, Int.toNat_natCast, toNat_succ, most, decide_eq_true_eq, decide_eq_false_iff_not, and_true, Bool.not_eq_true', Bool.or_eq_true, Bool.or_eq_false_iff, Bool.not_eq_false', Bool.and_eq_true, Bool.and_eq_false_iff, cast_lt, hu, r_kK, UF_91, UF_92, UF_93, hd_1, hd_0, List.length_append, List.length_cons, List.length_nil] at h h1 h2 h3 ⊢
    all_goals by_cases hlt : i < (o.v 7171).T.length
    all_goals try have g1 := h1 hlt
    all_goals try rw [h2 hlt]
    all_goals clear h1 h2
    all_goals try simp only [verOf_one, verOf_sing, List.append_assoc, List.length_append, List.length_cons, List.length_nil, h4] at h ⊢
    all_goals first | grind | (simp_all; done) | skip
theorem sents_le {v : ByteArray} : ∀ {l : List (List Dv)}, okW v l = true → (sentsOf l).length ≤ 80 * l.length := by
  intro l
  induction l generalizing v with
  | nil => intro _; exact Nat.zero_le _
  | cons a r ih =>
    intro h
    simp only [okW, Bool.and_eq_true, decide_eq_true_eq] at h
    have := ih h.2
    show ((cc a 0).T ++ sentsOf r).length ≤ _
    rw [List.length_append, List.length_cons]
    omega
theorem okW_take {v : ByteArray} {l : List (List Dv)} (h : okW v l = true) (i : Nat) : okW v (l.take i) = true := by
  have : okW v (l.take i ++ l.drop i) = true := by rw [List.take_append_drop]; exact h
  rw [okW_append, Bool.and_eq_true] at this
  exact this.1
theorem sents_bound {v : ByteArray} {l : List (List Dv)} (h : okW v l = true) {i : Nat} : (sentsOf (l.take i)).length ≤ 80 * i := by
  have := sents_le (okW_take h i)
  rw [List.length_take] at this
  omega
theorem aK_round {d : Dv} {v : ByteArray} (h : okW v d.T = true) {i : Nat} (hi : i < d.T.length) : (cc (row d i) 3).B = false ∧ ((cc (row d i) 1).B = true → (cc (row d i) 2).S.toList = (verAt v (d.T.take i)).toList) ∧ noErr (cc (row d i) 0).T = true ∧ (cc (row d i) 0).T.length ≤ 80 ∧
    sentsOf (d.T.take (i + 1)) = sentsOf (d.T.take i) ++ (cc (row d i) 0).T ∧ verAt v (d.T.take (i + 1)) = verOf (verAt v (d.T.take i)) (cc (row d i) 0).T := by
  have h1 := okW_at h hi
  refine ⟨h1.1, h1.2.1, h1.2.2.1, h1.2.2.2, ?_, ?_⟩
  · rw [take_row hi, sentsOf_one]
  · rw [take_row hi, verAt_one]
def aKL : Nat → List (Facts × List Ob)
  | 0 => aKL0
  | _ => aKL1
theorem aK_all (hu : o.uf = UF) (m : Nat) (he : okW (o.v 7161).S (o.v 7160).T = true) (hl : ((o.v 7160).T.length : Int) ≤ 1000) (hi : i ≤ (o.v 7160).T.length) (hm : m = 0 → (sentsOf ((o.v 7160).T.take i)) = []) (hp : m = 1 → 0 < (sentsOf ((o.v 7160).T.take i)).length) : m ≤ 1 → AllL (aK.env o u i) (aKL m) := by
  have h1 := fun h => @aK_round (o.v 7160) (o.v 7161).S he i h
  have h3 := fun h => List.take_of_length_le (l := (o.v 7160).T) (i := i) h
  have h4 := @sents_bound (o.v 7161).S (o.v 7160).T he i
  have h5 := List.take_of_length_le (l := (cc (row (o.v 7160) i) 0).T) (Nat.le_refl _)
  intro hm1
  have : m = 0 ∨ m = 1 := by omega
  rcases this with rfl | rfl
  · replace hm := hm rfl
    clear hp hm1
    simp only [aKL, aKL0, allL_cons, allL_nil, and_true]
    and_intros
    all_goals intro h
    all_goals simp only [hold_cons_iff, hold_nil_iff, allT_cons, allT_nil, ob_e, ob_t, dB_lt, dB_le, dB_ieq, dB_seq, dB_not, dB_beq, dB_bl, dB_and, dB_or, dI_il, dI_add, dI_sub, dI_size, dI_tlen, dI_rem, dI_quo, dI_mn, dS_sl, d_v, d_uf, d_cel, d_cell, d_il, d_bl, d_sl, d_add, d_sub, d_mn, d_take, d_chr, d_cat, d_rem, d_quo, d_size, d_tlen, dT_take, dT_cat, ar_0, ar_1, ar_2, ar_3, ar_4, LoopY.env, if_true, if_false, Nat.reduceEqDiff, I_i, B_b, S_s, T_t, T_i, T_cel, Int.toNat_natCast, toNat_succ, most, decide_eq_true_eq, decide_eq_false_iff_not, and_true, Bool.not_eq_true', Bool.or_eq_true, Bool.or_eq_false_iff, Bool.not_eq_false', Bool.and_eq_true, Bool.and_eq_false_iff, cast_lt, hu, r_aK, UF_88, UF_89, UF_91, UF_92, UF_93, Int.toNat_zero, List.take_zero, verOf_nil, hm, h5, List.nil_append, hd_1, hd_0, List.length_append, List.length_cons, List.length_nil] at h h1 h3 h4 ⊢
    all_goals by_cases hlt : i < (o.v 7160).T.length
    all_goals try have g1 := h1 hlt
    all_goals clear h1
    all_goals first | grind | (simp_all; done) | skip
  · replace hp := hp rfl
    clear hm hm1
    simp only [aKL, aKL1, allL_cons, allL_nil, and_true]
    and_intros
    all_goals intro h
    all_goals simp only [hold_cons_iff, hold_nil_iff, allT_cons, allT_nil, ob_e, ob_t, dB_lt, dB_le, dB_ieq, dB_seq, dB_not, dB_beq, dB_bl, dB_and, dB_or, dI_il, dI_add, dI_sub, dI_size, dI_tlen, dI_rem, dI_quo, dI_mn, dS_sl, d_v, d_uf, d_cel, d_cell, d_il, d_bl, d_sl, d_add, d_sub, d_mn, d_take, d_chr, d_cat, d_rem, d_quo, d_size, d_tlen, dT_take, dT_cat, ar_0, ar_1, ar_2, ar_3, ar_4, LoopY.env, if_true, if_false, Nat.reduceEqDiff, I_i, B_b, S_s, T_t, T_i, T_cel, Int.toNat_natCast, toNat_succ, most, decide_eq_true_eq, decide_eq_false_iff_not, and_true, Bool.not_eq_true', Bool.or_eq_true, Bool.or_eq_false_iff, Bool.not_eq_false', Bool.and_eq_true, Bool.and_eq_false_iff, cast_lt, hu, r_aK, UF_88, UF_89, UF_91, UF_92, UF_93, Int.toNat_zero, List.take_zero, verOf_nil, h5, hd_1, hd_0, List.length_append, List.length_cons, List.length_nil] at h h1 h3 h4 ⊢
    all_goals by_cases hlt : i < (o.v 7160).T.length
    all_goals try have g1 := h1 hlt
    all_goals clear h1
    all_goals first | grind | (simp_all; done) | skip
theorem tl_any {d : Dv} : anyB (Btl d d) d.T.length = false := anyB_of fun i hi => by
  unfold Btl
  rw [Bool.not_eq_false']
  cases h : anyB (Bix d (cc (row d i) 0) (cc (row d i) 1)) d.T.length with
  | true => rfl
  | false =>
    have := anyB_false h i hi
    simp [Bix] at this
theorem want_row {first : Int} {ch : Dv} {k i : Nat} (h : i < k) : row (.t (want first ch 0 k)) i = wRow first ch i := by
  unfold row want
  rw [T_t, List.getElem?_map, List.getElem?_range h]
  show wRow first ch (0 + i) = _
  rw [Nat.zero_add]
theorem w_at {first : Int} {ch : Dv} {i k : Nat} : cc (wRow first ch i) k = cc [.i (tyOf (row ch i)), .i 0, cc (row ch i) 0, cc (row ch i) 1, cc (row ch i) 2, .s (num (first + 1 + i)), cc (row ch i) 4, cc (row ch i) 5, cc (row ch i) 6, cc (row ch i) 7] k := rfl
def wKL : Nat → List (Facts × List Ob)
  | 0 => wKL0
  | _ => wKL1
theorem wK_all (hu : o.uf = UF) (m : Nat) (hf : 1 ≤ (o.v 7180).I) (hf2 : (o.v 7180).I ≤ 1048576) (hc : ((o.v 7181).T.length : Int) ≤ 40) (ho : ∀ j, j < (o.v 7181).T.length → okObj (row (o.v 7181) j) = true) (hi : i ≤ (o.v 7181).T.length) (hm : m = 0 → (o.v 7181).T.length = 0) (hp : m = 1 → 0 < (o.v 7181).T.length) : m ≤ 1 → AllL (wK.env o u i) (wKL m) := by
  have h0 : i < (o.v 7181).T.length → (((cc (row (o.v 7181) i) 4).T.length : Int) ≤ 4) := fun h => by
    have := ho i h
    simp only [okObj, Bool.and_eq_true, decide_eq_true_eq] at this
    grind
  have h1 : i < (o.v 7181).T.length → row (.t (want (o.v 7180).I (o.v 7181) 0 (o.v 7181).T.length)) i = wRow (o.v 7180).I (o.v 7181) i := fun h => want_row h
  have h2 := @tl_any (cc (row (o.v 7181) i) 4)
  have hq := nu_fin (n := (o.v 7180).I + 1 + i) (by omega) (by omega)
  have hs : ∀ z, (chB z).size = 1 := fun z => rfl
  have hm3 := tmod3 ((cc (row (o.v 7181) i) 5).S.size : Int) (by omega)
  clear ho
  intro hm1
  have : m = 0 ∨ m = 1 := by omega
  rcases this with rfl | rfl
  · replace hm := hm rfl
    clear hp hm1
    simp only [wKL, wKL0, allL_cons, allL_nil, and_true]
    and_intros
    all_goals intro h
    all_goals simp only [hold_cons_iff, hold_nil_iff, allT_cons, allT_nil, ob_e, ob_t, dB_lt, dB_le, dB_ieq, dB_seq, dB_not, dB_beq, dB_bl, dB_and, dB_or, dI_il, dI_add, dI_sub, dI_size, dI_tlen, dI_rem, dI_quo, dI_mn, dS_sl, d_v, d_uf, d_cel, d_cell, d_il, d_bl, d_sl, d_add, d_sub, d_mn, d_take, d_chr, d_cat, d_rem, d_quo, d_size, d_tlen, dT_take, dT_cat, ar_0, ar_1, ar_2, ar_3, ar_4, LoopY.env, if_true, if_false, Nat.reduceEqDiff, I_i, B_b, S_s, T_t, T_i, T_cel, Int.toNat_natCast, toNat_succ, most, decide_eq_true_eq, decide_eq_false_iff_not, and_true, Bool.not_eq_true', Bool.or_eq_true, Bool.or_eq_false_iff, Bool.not_eq_false', Bool.and_eq_true, Bool.and_eq_false_iff, cast_lt, hu, r_wK, UF_94, want_len] at h ⊢
    all_goals first | grind | (simp_all; done) | skip
  · replace hp := hp rfl
    clear hm hm1
    simp only [wKL, wKL1, allL_cons, allL_nil, and_true]
    and_intros
    all_goals intro h
    all_goals simp only [hold_cons_iff, hold_nil_iff, allT_cons, allT_nil, ob_e, ob_t, dB_lt, dB_le, dB_ieq, dB_seq, dB_not, dB_beq, dB_bl, dB_and, dB_or, dI_il, dI_add, dI_sub, dI_size, dI_tlen, dI_rem, dI_quo, dI_mn, dS_sl, d_v, d_uf, d_cel, d_cell, d_il, d_bl, d_sl, d_add, d_sub, d_mn, d_take, d_chr, d_cat, d_rem, d_quo, d_size, d_tlen, dT_take, dT_cat, ar_0, ar_1, ar_2, ar_3, ar_4, LoopY.env, if_true, if_false, Nat.reduceEqDiff, I_i, B_b, S_s, T_t, T_i, T_cel, Int.toNat_natCast, toNat_succ, most, decide_eq_true_eq, decide_eq_false_iff_not, and_true, Bool.not_eq_true', Bool.or_eq_true, Bool.or_eq_false_iff, Bool.not_eq_false', Bool.and_eq_true, Bool.and_eq_false_iff, cast_lt, hu, r_wK, UF_72, UF_73, UF_74, UF_75, UF_94, UF_96, want_len, nuAt, Int.toNat_zero, hs, nos] at h ⊢
    all_goals by_cases hlt : i < (o.v 7181).T.length
    all_goals try rw [h1 hlt] at h
    all_goals try rw [h1 hlt]
    all_goals try simp only [w_at, cc_0, cc_s, num, tyOf, I_i, S_s, h2] at h ⊢
    all_goals clear h1
    all_goals first | grind | (simp_all; done) | skip
end
end Go.Proofs.Ytckdphmpafopmaa.sxRetrying

namespace Go.Proofs.Ytckdphmpafopmaa.sxRetrying
open Go.Sx Go.RowKit
set_option linter.unusedVariables false
set_option linter.unusedSimpArgs false
set_option maxRecDepth 100000

theorem sends_zero {base : List (List Dv)} {first : Int} {ch : Dv} {a : Nat} : sends base first ch a 0 = base := List.append_nil _
theorem mn_of {b : Int} {l a : Nat} (h : 0 ≤ b) (ha : a ≤ l) : (if (l : Int) - (a : Int) < b then (l : Int) - (a : Int) else b) = ((min b.toNat (l - a) : Nat) : Int) := by
  split <;> omega
theorem mn_brk {ch : Dv} {a : Nat} {b : List Dv} (h : 0 ≤ (cc b 0).I) (ha : a ≤ ch.T.length) : (if (ch.T.length : Int) - (a : Int) < (cc b 0).I then (ch.T.length : Int) - (a : Int) else (cc b 0).I) = (brkN ch a b : Int) := mn_of h ha
theorem back_of {a n : Nat} (h : 0 < a + n) : ((a : Int) + (n : Int) - 1).toNat = a + n - 1 := by omega
theorem mark_of {a n : Nat} (h : 0 < a + n) : (a : Int) + (n : Int) - 1 = ((a + n - 1 : Nat) : Int) := by omega
theorem pos_of {a n : Nat} : (0 < (a : Int) + (n : Int)) = (0 < a + n) := by apply propext; omega
section
variable {o : Env} {i : Nat} {u : Nat → Value}
set_option maxHeartbeats 8000000 in
theorem obY_all1 (hu : o.uf = UF) (hf : 1 ≤ (o.v 7110).I) (hf2 : (o.v 7110).I ≤ 1048576) (hc : (o.v 7111).T.length ≤ 40) (hb : (o.v 7112).T.length ≤ 20) (hi : i ≤ stop (B77 (o.v 7112)) (o.v 7112).T.length) (h0 : 0 < i) : AllL (obY.env o u i) obYL1 := by
  have h1 := @stop_yes (B77 (o.v 7112)) (o.v 7112).T.length i hi
  have h2 := @stop_no (B77 (o.v 7112)) (o.v 7112).T.length i hi
  have h3 := @stop_end (B77 (o.v 7112)) (o.v 7112).T.length i hi
  have hle := @stop_le (B77 (o.v 7112)) (o.v 7112).T.length
  have ha := @ob_at (o.v 7110).I (o.v 7111) (o.v 7112) i
  have hl := @ob_len (o.v 7110).I (o.v 7111) (o.v 7112) hc i (fun j hj => by
    have := stop_before (Nat.lt_of_lt_of_le hj hi)
    simp only [B77, badBrk, Bool.or_eq_false_iff, decide_eq_false_iff_not] at this
    omega)
  have hp := @ob_pos (o.v 7110).I (o.v 7111) (o.v 7112) i h0
  have hs : obAt (o.v 7110).I (o.v 7111) (o.v 7112) (i + 1) = brkW (o.v 7110).I (o.v 7111) (obAt (o.v 7110).I (o.v 7111) (o.v 7112) i) (row (o.v 7112) i) := rfl
  have hsz : ∀ z, (chB z).size = 1 := fun z => rfl
  have hi20 : i ≤ 20 := by omega
  simp only [B77, badBrk] at h1 h2
  simp only [obYL1, allL_cons, allL_nil, and_true]
  and_intros
  all_goals intro h
  all_goals simp only [hold_cons_iff, hold_nil_iff, allT_cons, allT_nil, ob_e, ob_t, dB_lt, dB_le, dB_ieq, dB_seq, dB_not, dB_beq, dB_bl, dB_and, dB_or, dI_il, dI_add, dI_sub, dI_size, dI_tlen, dI_rem, dI_quo, dI_mn, dS_sl, d_v, d_uf, d_cel, d_cell, d_il, d_bl, d_sl, d_add, d_sub, d_mn, d_take, d_chr, d_cat, d_rem, d_quo, d_size, d_tlen, dT_take, dT_cat, ar_0, ar_1, ar_2, ar_3, ar_4, LoopY.env, if_true, if_false, Nat.reduceEqDiff, I_i, B_b, S_s, T_t, T_i, T_cel, Int.toNat_natCast, toNat_succ, most, decide_eq_true_eq, decide_eq_false_iff_not, and_true, Bool.not_eq_true', Bool.or_eq_true, Bool.or_eq_false_iff, Bool.not_eq_false', Bool.and_eq_true, Bool.and_eq_false_iff, cast_lt, hu, r_obY, UF_72, UF_73, UF_74, UF_75, UF_77, UF_78, UF_80, UF_81, UF_82, UF_83, UF_84, UF_85, anyB, hs, nuAt, Int.toNat_zero, sends_len, fails_len, hd_1, hd_0, List.length_append, List.length_cons, List.length_nil, hsz, nos] at h h1 h2 h3 hl hp ha ⊢
  all_goals by_cases hb0 : (cc (row (o.v 7112) i) 0).I < 0
  all_goals try (exfalso; omega)
  all_goals try grind
  all_goals replace hb0 := Int.not_lt.1 hb0
  all_goals simp only [mn_brk hb0 ha, brkW, pos_of] at h hs ⊢
  all_goals
    have hn : brkN (o.v 7111) (obAt (o.v 7110).I (o.v 7111) (o.v 7112) i).2 (row (o.v 7112) i) ≤ (o.v 7111).T.length - (obAt (o.v 7110).I (o.v 7111) (o.v 7112) i).2 := Nat.min_le_right _ _
    clear hs
    generalize brkN (o.v 7111) (obAt (o.v 7110).I (o.v 7111) (o.v 7112) i).2 (row (o.v 7112) i) = n at *
    generalize obAt (o.v 7110).I (o.v 7111) (o.v 7112) i = st at *
    obtain ⟨L, a⟩ := st
    have hh : 0 ≤ (cc (row (o.v 7112) i) 1).I := by omega
    have h2m := tmod2 (cc (row (o.v 7112) i) 1).I hh
    have h3m := tmod3 (cc (row (o.v 7112) i) 1).I hh
    have hst : i < stop (B77 (o.v 7112)) (o.v 7112).T.length := by grind
    clear h1 h2 h3 hle hi
    generalize row (o.v 7112) i = b at *
    have hq : 0 < a + n → _ := fun hp => nu_fin (n := (o.v 7110).I + 1 + ((a + n - 1 : Nat) : Int)) (by omega) (by omega)
    have hm3 := tmod3 ((cc (row (o.v 7111) (a + n - 1)) 5).S.size : Int) (by omega)
    by_cases hpos : 0 < a + n
  all_goals try simp only [mark_of hpos] at h ⊢
  all_goals try replace hq := hq hpos
  all_goals simp only [Int.toNat_natCast] at h ha hl hp hn ⊢
  all_goals and_intros
  all_goals first
    | omega
    | exact hst
    | (simp_all [kRow, xRow, num, eRow, oRow, nos, sends_zero, fails_zero, sends_len, fails_len]; done)
    | (simp_all [kRow, xRow, num, eRow, oRow, nos, sends_zero, fails_zero, sends_len, fails_len]; omega)
    | grind
    | skip
set_option maxHeartbeats 8000000 in
theorem obY_all0 (hu : o.uf = UF) (hf : 1 ≤ (o.v 7110).I) (hf2 : (o.v 7110).I ≤ 1048576) (hc : (o.v 7111).T.length ≤ 40) (hb : (o.v 7112).T.length ≤ 20) (hi : 0 ≤ stop (B77 (o.v 7112)) (o.v 7112).T.length) : AllL (obY.env o u 0) obYL0 := by
  have h1 := @stop_yes (B77 (o.v 7112)) (o.v 7112).T.length 0 hi
  have h2 := @stop_no (B77 (o.v 7112)) (o.v 7112).T.length 0 hi
  have h3 := @stop_end (B77 (o.v 7112)) (o.v 7112).T.length 0 hi
  have hle := @stop_le (B77 (o.v 7112)) (o.v 7112).T.length
  have ha := @ob_at (o.v 7110).I (o.v 7111) (o.v 7112) 0
  have hl := @ob_len (o.v 7110).I (o.v 7111) (o.v 7112) hc 0 (fun j hj => by
    have := stop_before (Nat.lt_of_lt_of_le hj hi)
    simp only [B77, badBrk, Bool.or_eq_false_iff, decide_eq_false_iff_not] at this
    omega)
  have hp : (obAt (o.v 7110).I (o.v 7111) (o.v 7112) 0).1 = [] := rfl
  have hp2 : (obAt (o.v 7110).I (o.v 7111) (o.v 7112) 0).2 = 0 := rfl
  have hs : obAt (o.v 7110).I (o.v 7111) (o.v 7112) (0 + 1) = brkW (o.v 7110).I (o.v 7111) (obAt (o.v 7110).I (o.v 7111) (o.v 7112) 0) (row (o.v 7112) 0) := rfl
  have hsz : ∀ z, (chB z).size = 1 := fun z => rfl
  have hi20 : 0 ≤ 20 := by omega
  simp only [B77, badBrk] at h1 h2
  simp only [obYL0, allL_cons, allL_nil, and_true]
  and_intros
  all_goals intro h
  all_goals simp only [hold_cons_iff, hold_nil_iff, allT_cons, allT_nil, ob_e, ob_t, dB_lt, dB_le, dB_ieq, dB_seq, dB_not, dB_beq, dB_bl, dB_and, dB_or, dI_il, dI_add, dI_sub, dI_size, dI_tlen, dI_rem, dI_quo, dI_mn, dS_sl, d_v, d_uf, d_cel, d_cell, d_il, d_bl, d_sl, d_add, d_sub, d_mn, d_take, d_chr, d_cat, d_rem, d_quo, d_size, d_tlen, dT_take, dT_cat, ar_0, ar_1, ar_2, ar_3, ar_4, LoopY.env, if_true, if_false, Nat.reduceEqDiff, I_i, B_b, S_s, T_t, T_i, T_cel, Int.toNat_natCast, toNat_succ, most, decide_eq_true_eq, decide_eq_false_iff_not, and_true, Bool.not_eq_true', Bool.or_eq_true, Bool.or_eq_false_iff, Bool.not_eq_false', Bool.and_eq_true, Bool.and_eq_false_iff, cast_lt, hu, r_obY, UF_72, UF_73, UF_74, UF_75, UF_77, UF_78, UF_80, UF_81, UF_82, UF_83, UF_84, UF_85, anyB, hs, nuAt, Int.toNat_zero, sends_len, fails_len, hd_1, hd_0, List.length_append, List.length_cons, List.length_nil, hsz, nos] at h h1 h2 h3 hl hp ha ⊢
  all_goals by_cases hb0 : (cc (row (o.v 7112) 0) 0).I < 0
  all_goals try (exfalso; omega)
  all_goals try grind
  all_goals replace hb0 := Int.not_lt.1 hb0
  all_goals simp only [mn_brk hb0 ha, brkW, pos_of] at h hs ⊢
  all_goals
    have hn : brkN (o.v 7111) (obAt (o.v 7110).I (o.v 7111) (o.v 7112) 0).2 (row (o.v 7112) 0) ≤ (o.v 7111).T.length - (obAt (o.v 7110).I (o.v 7111) (o.v 7112) 0).2 := Nat.min_le_right _ _
    clear hs
    generalize brkN (o.v 7111) (obAt (o.v 7110).I (o.v 7111) (o.v 7112) 0).2 (row (o.v 7112) 0) = n at *
    generalize obAt (o.v 7110).I (o.v 7111) (o.v 7112) 0 = st at *
    obtain ⟨L, a⟩ := st
    have hh : 0 ≤ (cc (row (o.v 7112) 0) 1).I := by omega
    have h2m := tmod2 (cc (row (o.v 7112) 0) 1).I hh
    have h3m := tmod3 (cc (row (o.v 7112) 0) 1).I hh
    have hst : 0 < stop (B77 (o.v 7112)) (o.v 7112).T.length := by grind
    clear h1 h2 h3 hle hi
    generalize row (o.v 7112) 0 = b at *
    have hq : 0 < a + n → _ := fun hp => nu_fin (n := (o.v 7110).I + 1 + ((a + n - 1 : Nat) : Int)) (by omega) (by omega)
    have hm3 := tmod3 ((cc (row (o.v 7111) (a + n - 1)) 5).S.size : Int) (by omega)
    by_cases hpos : 0 < a + n
  all_goals try simp only [mark_of hpos] at h ⊢
  all_goals try replace hq := hq hpos
  all_goals clear hp2
  all_goals subst hp
  all_goals have hz0 : ¬ 0 < (cc b 2).I → (cc b 2).I.toNat = 0 := by omega
  all_goals simp only [Int.toNat_natCast] at h ha hl hn ⊢
  all_goals by_cases hz : 0 < (cc b 2).I
  all_goals try rw [hz0 hz]
  all_goals try simp only [sends_zero, fails_zero, row_1, cc_0, cc_s, I_i, B_b, S_s, T_i, T_t, List.nil_append, List.length_nil, List.length_cons, List.length_append]
  all_goals and_intros
  all_goals first
    | omega
    | exact hst
    | (simp_all [kRow, xRow, num, eRow, oRow, nos, sends_zero, fails_zero, sends_len, fails_len, row_1, cc_0, cc_s]; done)
    | (simp_all [kRow, xRow, num, eRow, oRow, nos, sends_zero, fails_zero, sends_len, fails_len, row_1, cc_0, cc_s]; omega)
    | grind
    | skip
end
end Go.Proofs.Ytckdphmpafopmaa.sxRetrying
