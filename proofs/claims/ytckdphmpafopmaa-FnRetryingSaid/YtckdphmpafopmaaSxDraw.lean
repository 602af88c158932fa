/-
  SX, PART 8: a region whose order is open: whatever order its edges allow comes to the state of the text's order, where no two operations clash.
-/
import Derived.Test.YtckdphmpafopmaaSxLoc
namespace Go.Sx
open Go.RowKit
set_option linter.unusedVariables false
set_option linter.unusedSimpArgs false

/-! ### the last one that wrote -/
def lastW (p : Nat → Bool) : Nat → Option Nat
  | 0 => none
  | n + 1 => if p n then some n else lastW p n
def pick {α : Type} (V : Nat → α) (p : Nat → Bool) (n : Nat) : α :=
  match lastW p n with
  | some j => V (j + 1)
  | none => V 0

theorem lastW_congr {p q : Nat → Bool} : ∀ {n : Nat}, (∀ k, k < n → p k = q k) → lastW p n = lastW q n
  | 0, _ => rfl
  | n + 1, h => by
    have ih := lastW_congr (p := p) (q := q) (n := n) (fun k hk => h k (by omega))
    simp only [lastW, h n (by omega), ih]
theorem pick_congr {α : Type} {V : Nat → α} {p q : Nat → Bool} {n : Nat} (h : ∀ k, k < n → p k = q k) : pick V p n = pick V q n := by
  unfold pick; rw [lastW_congr h]
theorem pick_none {α : Type} {V : Nat → α} {p : Nat → Bool} {n : Nat} (h : ∀ k, k < n → p k = false) : pick V p n = V 0 := by
  have : lastW p n = none := by
    induction n with
    | zero => rfl
    | succ n ih => simp only [lastW, h n (by omega), Bool.false_eq_true, if_false]; exact ih (fun k hk => h k (by omega))
  unfold pick; rw [this]
theorem pick_all {α : Type} {V : Nat → α} {wr : Nat → Bool} {n : Nat} (hV : ∀ k, k < n → wr k = false → V (k + 1) = V k) : ∀ {i : Nat}, i ≤ n → pick V wr i = V i
  | 0, _ => rfl
  | i + 1, hi => by
    cases hw : wr i with
    | true => unfold pick; simp [lastW, hw]
    | false =>
      have ih := pick_all hV (i := i) (by omega)
      rw [hV i (by omega) hw, ← ih]
      unfold pick; simp [lastW, hw]
/-- Nobody behind i wrote: then what counts stands ahead of i. -/
theorem lastW_cut {p : Nat → Bool} {i : Nat} : ∀ {n : Nat}, i ≤ n → (∀ k, i ≤ k → k < n → p k = false) → lastW p n = lastW p i
  | 0, hi, _ => by rw [show i = 0 by omega]
  | n + 1, hi, h => by
    by_cases e : i = n + 1
    · rw [e]
    · simp only [lastW, h n (by omega) (by omega), Bool.false_eq_true, if_false]
      exact lastW_cut (by omega) (fun k h1 h2 => h k h1 (by omega))
theorem pick_at {α : Type} {V : Nat → α} {wr E : Nat → Bool} {n i : Nat} (hV : ∀ k, k < n → wr k = false → V (k + 1) = V k) (hi : i ≤ n)
    (h1 : ∀ k, k < i → wr k = true → E k = true) (h2 : ∀ k, i ≤ k → k < n → E k = true → wr k = false) : pick V (fun k => E k && wr k) n = V i := by
  have e1 : lastW (fun k => E k && wr k) n = lastW (fun k => E k && wr k) i := lastW_cut hi (fun k a b => by
    cases hE : E k with
    | false => rfl
    | true => rw [h2 k a b hE]; rfl)
  have e2 : lastW (fun k => E k && wr k) i = lastW wr i := lastW_congr (fun k hk => by
    cases hw : wr k with
    | false => simp
    | true => rw [h1 k hk hw]; rfl)
  rw [← pick_all hV hi]
  unfold pick; rw [e1, e2]
theorem pick_put {α : Type} {V : Nat → α} {wr E E' : Nat → Bool} {n i : Nat} (hi : i < n) (hE : ∀ k, E' k = (E k || k == i)) (hw : wr i = true)
    (h2 : ∀ k, i < k → k < n → E k = true → wr k = false) : pick V (fun k => E' k && wr k) n = V (i + 1) := by
  have e1 : lastW (fun k => E' k && wr k) n = lastW (fun k => E' k && wr k) (i + 1) := lastW_cut hi (fun k a b => by
    simp only [hE]
    have hki : (k == i) = false := by rw [beq_eq_false_iff_ne]; omega
    rw [hki]
    cases hEk : E k with
    | false => rfl
    | true => rw [h2 k a b hEk]; rfl)
  unfold pick; rw [e1]
  simp [lastW, hE, hw]
theorem pick_pass {α : Type} {V : Nat → α} {wr E E' : Nat → Bool} {n i : Nat} (hE : ∀ k, E' k = (E k || k == i)) (hw : wr i = false) :
    pick V (fun k => E' k && wr k) n = pick V (fun k => E k && wr k) n := by
  refine pick_congr (fun k hk => ?_)
  simp only [hE]
  by_cases e : k = i
  · subst e; simp [hw]
  · have : (k == i) = false := by rw [beq_eq_false_iff_ne]; exact e
    simp [this]

/-! ### edges -/
def Closed (ops : Array Oper) (E : Nat → Bool) : Prop := ∀ (j : Nat) (o : Oper), ops[j]? = some o → E j = true → ∀ e ∈ o.after, Region.binds .any e = true → E e.on = true
def PredsIn (E : Nat → Bool) (o : Oper) : Prop := ∀ e ∈ o.after, Region.binds .any e = true → E e.on = true

theorem maskOf_bit {acc : List Nat} {i : Nat} : ∀ {l : List Edge} {s : Nat}, Nat.testBit (l.foldl (fun s e => cond (Region.binds .any e) (s ||| (2 ^ e.on ||| acc.getD e.on 0)) s) s) i = true →
    Nat.testBit s i = true ∨ ∃ e ∈ l, Region.binds .any e = true ∧ (i = e.on ∨ Nat.testBit (acc.getD e.on 0) i = true)
  | [], s, h => .inl h
  | e :: r, s, h => by
    rcases maskOf_bit (l := r) h with h1 | ⟨e', h1, h2, h3⟩
    · cases hb : Region.binds .any e with
      | false => simp only [hb, cond_false] at h1; exact .inl h1
      | true =>
        simp only [hb] at h1
        simp only [cond_true, Nat.testBit_or, Nat.testBit_two_pow, Bool.or_eq_true, decide_eq_true_eq] at h1
        rcases h1 with h1 | h1 | h1
        · exact .inl h1
        · exact .inr ⟨e, List.mem_cons_self .., hb, .inl h1.symm⟩
        · exact .inr ⟨e, List.mem_cons_self .., hb, .inr h1⟩
    · exact .inr ⟨e', List.mem_cons_of_mem _ h1, h2, h3⟩

theorem masksFrom_ok {ops : Array Oper} {E : Nat → Bool} (hC : Closed ops E) : ∀ (r pre : List Oper) (acc : List Nat), ops.toList = pre ++ r → acc.length = pre.length →
    (∀ j o i, pre[j]? = some o → PredsIn E o → Nat.testBit (acc.getD j 0) i = true → E i = true) →
    ∀ j o i, ops.toList[j]? = some o → PredsIn E o → Nat.testBit ((masksFrom r acc).getD j 0) i = true → E i = true
  | [], pre, acc, he, hl, h => by
    rw [List.append_nil] at he
    rw [he]
    exact h
  | o :: r, pre, acc, he, hl, h => by
    refine masksFrom_ok hC r (pre ++ [o]) (acc ++ [maskOf acc o]) (by rw [he]; simp) (by simp [hl]) (fun j o' i hj hP hb => ?_)
    by_cases hlt : j < pre.length
    · rw [List.getElem?_append_left hlt] at hj
      have : (acc ++ [maskOf acc o]).getD j 0 = acc.getD j 0 := by
        simp only [List.getD_eq_getElem?_getD]; rw [List.getElem?_append_left (by omega)]
      rw [this] at hb
      exact h j o' i hj hP hb
    · have hje : j = pre.length := by
        have := (List.getElem?_eq_some_iff.1 hj).1
        simp at this; omega
      subst hje
      have ho : o' = o := by simpa using hj.symm
      subst ho
      have : (acc ++ [maskOf acc o']).getD pre.length 0 = maskOf acc o' := by
        simp only [List.getD_eq_getElem?_getD]; rw [List.getElem?_append_right (by omega)]; simp [hl]
      rw [this] at hb
      unfold maskOf at hb
      rcases maskOf_bit hb with hb | ⟨e, h1, h2, h3⟩
      · simp at hb
      · have hEe := hP e (by simpa using h1) h2
        rcases h3 with h3 | h3
        · rw [h3]; exact hEe
        · by_cases hlt2 : e.on < pre.length
          · have hpo := List.getElem?_eq_getElem hlt2
            have hops : ops[e.on]? = some pre[e.on] := by
              have : ops.toList[e.on]? = some pre[e.on] := by rw [he, List.getElem?_append_left hlt2]; exact hpo
              simpa using this
            exact h e.on _ i hpo (fun e' he' hb' => hC e.on _ hops hEe e' he' hb') h3
          · rw [List.getD_eq_getElem?_getD, List.getElem?_eq_none (by omega)] at h3
            simp at h3

theorem masks_ok {ops : Array Oper} {E : Nat → Bool} (hC : Closed ops E) {j i : Nat} {o : Oper} (hj : ops[j]? = some o) (hP : PredsIn E o) (hb : Nat.testBit ((masks ops).getD j 0) i = true) : E i = true :=
  masksFrom_ok hC ops.toList [] [] rfl rfl (fun j o i hj => by simp at hj) j o i (by simpa using hj) hP hb

theorem inL_iff {n : Nat} {l : List Nat} : inL n l = true ↔ n ∈ l := by
  unfold inL
  rw [List.any_eq_true]
  constructor
  · rintro ⟨x, h1, h2⟩; rw [Nat.eq_of_beq_eq_true h2]; exact h1
  · intro h; exact ⟨n, h, Nat.beq_refl n⟩
theorem apartL_spec {a b : List Nat} (h : apartL a b = true) {n : Nat} (h1 : n ∈ a) (h2 : n ∈ b) : False := by
  have := List.all_eq_true.1 h n h1
  rw [inL_iff.2 h2] at this
  cases this

/-- Two operations that clash are in order. -/
theorem okDraw_pair {ops : Array Oper} {F : Nat → Foot} {cl : Nat → Bool} (hok : okDraw ops F cl = true) {i j : Nat} (hij : i < j) {oi oj : Oper} (hi : ops[i]? = some oi) (hj : ops[j]? = some oj)
    (hc : clash ops oi oj (F i) (F j) (cl i) (cl j) = true) : Nat.testBit ((masks ops).getD j 0) i = true := by
  have hjn : j < ops.size := (Array.getElem?_eq_some_iff.1 hj).1
  unfold okDraw at hok
  simp only [Bool.and_eq_true] at hok
  have h1 := List.all_eq_true.1 hok.2 j (List.mem_range.2 hjn)
  have h2 := List.all_eq_true.1 h1 i (List.mem_range.2 hij)
  unfold okPair at h2
  simp only [hi, hj] at h2
  cases hb : Nat.testBit ((masks ops).getD j 0) i with
  | true => rfl
  | false => rw [hb, hc] at h2; cases h2

theorem back_spec {ops : Array Oper} (h : back ops = true) {j : Nat} {o : Oper} (hj : ops[j]? = some o) : ∀ e ∈ o.after, Region.binds .any e = true → e.on < j := by
  intro e he hb
  unfold back at h
  have h1 := List.all_eq_true.1 h (o, j) (by
    rw [List.mk_mem_zipIdx_iff_getElem?]; simpa using hj)
  have h2 := List.all_eq_true.1 h1 e (by simpa using he)
  rw [hb] at h2
  simp only [Bool.not_true, Bool.false_or, Nat.blt] at h2
  exact Nat.le_of_ble_eq_true h2

theorem apart_of {ops : Array Oper} {oi oj : Oper} {Fi Fj : Foot} {ci cj : Bool} (hc : clash ops oi oj Fi Fj ci cj = false) :
    oi.apart ops oj = true ∧ (∀ n, n ∈ Fi.wr → n ∈ Fj.rd → False) ∧ (∀ n, n ∈ Fi.wr → n ∈ Fj.wr → False) ∧ (∀ n, n ∈ Fi.rd → n ∈ Fj.wr → False) ∧ (ci = true → cj = true → False) := by
  unfold clash at hc
  simp only [Bool.or_eq_false_iff, Bool.not_eq_false'] at hc
  obtain ⟨⟨⟨⟨h1, h2⟩, h3⟩, h4⟩, h5⟩ := hc
  exact ⟨h1, fun n a b => apartL_spec h2 a b, fun n a b => apartL_spec h3 a b, fun n a b => apartL_spec h4 a b, fun a b => by rw [a, b] at h5; cases h5⟩

end Go.Sx
