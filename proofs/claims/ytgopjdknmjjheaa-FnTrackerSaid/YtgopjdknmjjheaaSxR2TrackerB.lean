/-
  THE LAW FnTracker: what its loops' rounds have to show, and that it is so.
-/
import Derived.Test.YtgopjdknmjjheaaSxR2TrackerL
import Derived.Test.YtgopjdknmjjheaaRows
namespace Go.Proofs.Ytgopjdknmjjheaa.sxTracker
open Go.Sx Go.RowKit
set_option linter.unusedVariables false
set_option linter.unusedSimpArgs false
set_option maxRecDepth 100000

def bad1 (S : Nat → ByteArray) (j : Nat) : Bool := decide (2147483647 < ((S j).size : Int))
def okOp (k : Int) (s : ByteArray) : Prop := 1 ≤ k ∧ k ≤ 4 ∧ (s.size : Int) ≤ 20
def bad2 (K : Nat → Int) (S : Nat → ByteArray) (j : Nat) : Bool := !decide (1 ≤ K j ∧ K j ≤ 4 ∧ ((S j).size : Int) ≤ 20)
/-- The environment of the law. -/
structure Is (o : Env) (single : Bool) (K : Nat → Int) (S : Nat → ByteArray) (n : Nat) : Prop where
  v0 : o.v 0 = .b single
  v32 : o.v 32 = .i n
  v2000 : o.v 2000 = .i 0
  v3000 : o.v 3000 = .b (decide (stop (bad1 S) n < n))
  v3001 : o.v 3001 = .i (stop (bad1 S) n)
  v3002 : o.v 3002 = .b (decide (stop (bad2 K S) n < n))
  v3003 : o.v 3003 = .i (stop (bad2 K S) n)
  f32 : ∀ j : Nat, (o.fn 32 j).I = K j
  f33 : ∀ j : Nat, (o.fn 33 j).S = S j
  f1000 : ∀ j : Nat, o.fn 1000 j = .i (ans single K S j)
  f1001 : ∀ j : Nat, o.fn 1001 j = .b (stAt single K S j).up
  f1002 : ∀ j : Nat, o.fn 1002 j = .b (stAt single K S j).synced
  f1003 : ∀ j : Nat, o.fn 1003 j = .i (stAt single K S j).count
  f1004 : ∀ j : Nat, o.fn 1004 j = .i (stAt single K S j).n
  f1005 : ∀ j : Nat, o.fn 1005 j = .b ((stAt single K S j).has (S j))
  f1011 : ∀ j : Nat, o.fn 1011 j = .i (cond single (stAt single K S j).count 0)
  f1012 : ∀ j : Nat, o.fn 1012 j = .b (single && (stAt single K S j).up)
  f1013 : ∀ j : Nat, o.fn 1013 j = .b (single && (stAt single K S j).synced)
  f1014 : ∀ j : Nat, o.fn 1014 j = .b (!single && (stAt single K S j).up)
  f1015 : ∀ j : Nat, o.fn 1015 j = .b (!single && (stAt single K S j).synced)
  f1016 : ∀ j : Nat, o.fn 1016 j = .b (stAt single K S j).none
  m1 : ∀ (j : Nat) (s : ByteArray), o.mp 1 j (.string s) = cond ((stAt single K S j).has s) (some (.bool true)) none
  m2 : ∀ (j : Nat) (s : ByteArray), o.mp 2 j (.string s) = cond ((stAt single K S j).has s) (some (.agg #[])) none

theorem g1r : g1.r = 2000 := rfl
theorem g2r : g2.r = 2000 := rfl
theorem sr : sp.r = 2000 := rfl
theorem ir : im.r = 2000 := rfl
theorem cr : cm.r = 2000 := rfl
theorem succ_cast (i : Nat) : (i : Int) + 1 = ((i + 1 : Nat) : Int) := by omega

section
variable {o : Env} {single : Bool} {K : Nat → Int} {S : Nat → ByteArray} {n i : Nat} {u : Nat → Value}

theorem g1_all (H : Is o single K S n) (hi : i ≤ stop (bad1 S) n) (hn : (n : Int) ≤ 9223372036854775807) : AllL (g1.env o u i) g1L0 := by
  have h1 := stop_le (bad := bad1 S) (n := n)
  have h2 : stop (bad1 S) n < n → 2147483647 < ((S (stop (bad1 S) n)).size : Int) := fun h => of_decide_eq_true (stop_at h)
  have h3 : i < stop (bad1 S) n → ¬ 2147483647 < ((S i).size : Int) := fun h => of_decide_eq_false (stop_before h)
  have h4 : i = stop (bad1 S) n → i < n → 2147483647 < ((S i).size : Int) := fun e h => by subst e; exact h2 h
  clear h2
  simp only [g1L0, allL_cons, allL_nil, and_true]
  and_intros
  all_goals intro h
  all_goals simp only [hold_cons_iff, hold_nil_iff, allT_cons, allT_nil, ob_e, dB_lt, dB_le, dB_ieq, dB_not, dI_il, dI_add, dI_size, d_v, d_fn, LoopY.env, g1r, if_true, if_false, Nat.reduceEqDiff, I_i, B_b, H.v32, H.v3000, H.v3001, H.f32, H.f33, decide_eq_true_eq, decide_eq_false_iff_not, and_true, Bool.not_eq_true'] at h ⊢
  all_goals generalize stop (bad1 S) n = m at *
  all_goals omega
theorem g2_all (H : Is o single K S n) (hi : i ≤ stop (bad2 K S) n) (hn : (n : Int) ≤ 9223372036854775807) : AllL (g2.env o u i) g2L0 := by
  have h1 := stop_le (bad := bad2 K S) (n := n)
  have h2 : stop (bad2 K S) n < n → ¬ (1 ≤ K (stop (bad2 K S) n) ∧ K (stop (bad2 K S) n) ≤ 4 ∧ ((S (stop (bad2 K S) n)).size : Int) ≤ 20) := fun h => by
    have : (!decide (1 ≤ K (stop (bad2 K S) n) ∧ K (stop (bad2 K S) n) ≤ 4 ∧ ((S (stop (bad2 K S) n)).size : Int) ≤ 20)) = true := stop_at h
    rw [Bool.not_eq_true'] at this; exact of_decide_eq_false this
  have h3 : i < stop (bad2 K S) n → 1 ≤ K i ∧ K i ≤ 4 ∧ ((S i).size : Int) ≤ 20 := fun h => by
    have : (!decide (1 ≤ K i ∧ K i ≤ 4 ∧ ((S i).size : Int) ≤ 20)) = false := stop_before h
    rw [Bool.not_eq_false'] at this; exact of_decide_eq_true this
  have h4 : i = stop (bad2 K S) n → i < n → ¬ (1 ≤ K i ∧ K i ≤ 4 ∧ ((S i).size : Int) ≤ 20) := fun e h => by subst e; exact h2 h
  clear h2
  simp only [g2L0, allL_cons, allL_nil, and_true]
  and_intros
  all_goals intro h
  all_goals simp only [hold_cons_iff, hold_nil_iff, allT_cons, allT_nil, ob_e, dB_lt, dB_le, dB_ieq, dB_not, dI_il, dI_add, dI_size, d_v, d_fn, LoopY.env, g2r, if_true, if_false, Nat.reduceEqDiff, I_i, B_b, H.v32, H.v3002, H.v3003, H.f32, H.f33, decide_eq_true_eq, decide_eq_false_iff_not, and_true, Bool.not_eq_true'] at h ⊢
  all_goals generalize stop (bad2 K S) n = m at *
  all_goals omega

theorem st_succ (single : Bool) (K : Nat → Int) (S : Nat → ByteArray) (i : Nat) : stAt single K S (i + 1) = shut single (step0 single (stAt single K S i) (K i) (S i)).1 := rfl
structure Inv (single : Bool) (s : St) (i : Nat) : Prop where
  pos : single = true → 0 ≤ s.count
  lo : -(i : Int) ≤ s.count
  hi : s.count ≤ i
  sync : s.up = true → (if single then s.count = 0 else s.n = 0) → s.synced = true
  non : s.none = true → (∀ x, s.has x = false) ∧ s.n = 0
theorem inv_step {single : Bool} {s : St} {i : Nat} {k : Int} {w : ByteArray} (h : Inv single s i) : Inv single (shut single (step0 single s k w).1) (i + 1) := by
  obtain ⟨h1, h2, h3, h4, h5⟩ := h
  obtain ⟨up, sy, c, has, nn, no⟩ := s
  simp only at h1 h2 h3 h4 h5
  have hs : ∀ a b : Bool, ∀ p : Prop, ∀ _ : Decidable p, a = true → p → (b || (a && decide p)) = true := by
    intro a b p _ ha hp; simp [ha, hp]
  by_cases e1 : k = 1
  · subst e1
    refine ⟨fun h => ?_, ?_, ?_, fun hu hc => ?_, fun h => ?_⟩
    all_goals simp only [shut, step0, if_true] at *
    · have := h1 h; omega
    · omega
    · omega
    · cases single <;> simp_all
    · cases h
  · by_cases e2 : k = 2
    · subst e2
      by_cases e3 : (single && decide (c = 0)) = true
      · refine ⟨fun h => ?_, ?_, ?_, fun hu hc => ?_, fun h => ?_⟩
        all_goals simp only [shut, step0, if_true, if_neg e1, if_pos e3] at *
        · exact h1 h
        · omega
        · omega
        · cases single <;> simp_all
        · obtain ⟨g1, g2⟩ := h5 h
          refine ⟨fun x => ?_, by rw [g1]; simpa using g2⟩
          unfold upd; split
          · rfl
          · exact g1 x
      · refine ⟨fun h => ?_, ?_, ?_, fun hu hc => ?_, fun h => ?_⟩
        all_goals simp only [shut, step0, if_true, if_neg e1, if_neg e3] at *
        · have := h1 h
          have : c ≠ 0 := fun e => e3 (by simp [h, e])
          omega
        · omega
        · omega
        · cases single <;> simp_all
        · obtain ⟨g1, g2⟩ := h5 h
          refine ⟨fun x => ?_, by rw [g1]; simpa using g2⟩
          unfold upd; split
          · rfl
          · exact g1 x
    · by_cases e3 : k = 3
      · subst e3
        refine ⟨fun h => ?_, ?_, ?_, fun hu hc => ?_, fun h => ?_⟩
        all_goals simp only [shut, step0, if_true, if_neg e1, if_neg e2] at *
        · exact h1 h
        · omega
        · omega
        · cases single <;> simp_all
        · exact h5 h
      · by_cases e4 : k = 4
        · subst e4
          refine ⟨fun h => ?_, ?_, ?_, fun hu hc => ?_, fun h => ?_⟩
          all_goals simp only [shut, step0, if_true, if_neg e1, if_neg e2, if_neg e3] at *
          · exact h1 h
          · omega
          · omega
          · cases single <;> simp_all
          · exact h5 h
        · refine ⟨fun h => ?_, ?_, ?_, fun hu hc => ?_, fun h => ?_⟩
          all_goals simp only [shut, step0, if_neg e1, if_neg e2, if_neg e3, if_neg e4] at *
          · exact h1 h
          · omega
          · omega
          · cases single <;> simp_all
          · exact h5 h
theorem inv : ∀ i, Inv single (stAt single K S i) i
  | 0 => ⟨fun _ => Int.le_refl 0, by simp [stAt], by simp [stAt], fun h => (by cases h), fun _ => ⟨fun _ => rfl, rfl⟩⟩
  | i + 1 => inv_step (inv i)
theorem has_other {s : ByteArray} (h : ¬ s = S i) : (stAt single K S (i + 1)).has s = (stAt single K S i).has s := by
  rw [st_succ]
  simp only [shut, step0]
  split
  · simp [upd, h]
  · split
    · split <;> simp [upd, h]
    · split
      · rfl
      · split <;> rfl
/-- The keys that are held. -/
def Keys (f : ByteArray → Bool) (n : Int) : Prop := ∃ L : List ByteArray, L.Nodup ∧ (∀ x, f x = true ↔ x ∈ L) ∧ n = L.length
theorem keys_add {f : ByteArray → Bool} {n : Int} {w : ByteArray} : Keys f n → Keys (upd f w true) (if f w then n else n + 1) := by
  rintro ⟨L, h1, h2, h3⟩
  by_cases e : f w = true
  · refine ⟨L, h1, fun x => ?_, by rw [if_pos e]; exact h3⟩
    unfold upd
    by_cases ex : x = w
    · rw [if_pos ex, ex]; exact ⟨fun _ => (h2 w).1 e, fun _ => rfl⟩
    · rw [if_neg ex]; exact h2 x
  · refine ⟨w :: L, List.nodup_cons.2 ⟨fun hm => e ((h2 w).2 hm), h1⟩, fun x => ?_, by rw [if_neg e, h3]; simp⟩
    unfold upd
    by_cases ex : x = w
    · rw [if_pos ex, ex]; exact ⟨fun _ => List.mem_cons_self .., fun _ => rfl⟩
    · rw [if_neg ex, h2 x, List.mem_cons]; exact ⟨Or.inr, fun h => h.resolve_left ex⟩
theorem keys_del {f : ByteArray → Bool} {n : Int} {w : ByteArray} : Keys f n → Keys (upd f w false) (if f w then n - 1 else n) := by
  rintro ⟨L, h1, h2, h3⟩
  by_cases e : f w = true
  · have hm := (h2 w).1 e
    refine ⟨L.filter fun x => decide (x ≠ w), h1.filter _, fun x => ?_, ?_⟩
    · unfold upd
      by_cases ex : x = w
      · rw [if_pos ex, ex]; simp
      · rw [if_neg ex, h2 x]; simp [ex]
    · rw [if_pos e, h3]
      have : ∀ {L : List ByteArray}, L.Nodup → w ∈ L → (L.filter fun x => decide (x ≠ w)).length + 1 = L.length := by
        intro L
        induction L with
        | nil => intro _ h; cases h
        | cons y r ih =>
          intro hn hm
          obtain ⟨a1, a2⟩ := List.nodup_cons.1 hn
          by_cases ey : y = w
          · subst ey
            have : r.filter (fun x => decide (x ≠ y)) = r := List.filter_eq_self.2 fun x hx => by
              simp only [decide_eq_true_eq]; rintro rfl; exact a1 hx
            simp only [List.filter_cons, ne_eq, not_true, decide_false, Bool.false_eq_true, if_false] at this ⊢
            rw [this]; rfl
          · have hm' : w ∈ r := (List.mem_cons.1 hm).resolve_left (fun e => ey e.symm)
            have := ih a2 hm'
            simp [ey] at this ⊢
            omega
      have := this h1 hm
      omega
  · refine ⟨L, h1, fun x => ?_, by rw [if_neg e]; exact h3⟩
    unfold upd
    by_cases ex : x = w
    · rw [if_pos ex, ex]; exact ⟨fun h => (by cases h), fun h => absurd ((h2 w).2 h) e⟩
    · rw [if_neg ex]; exact h2 x
theorem keys : ∀ i, Keys (stAt single K S i).has (stAt single K S i).n
  | 0 => ⟨[], List.nodup_nil, fun x => ⟨fun h => (by cases h), fun h => (by cases h)⟩, rfl⟩
  | i + 1 => by
    have h := keys i
    rw [st_succ]
    generalize stAt single K S i = s at h ⊢
    simp only [shut, step0]
    split
    · exact keys_add h
    · split
      · split
        · exact keys_del h
        · exact keys_del h
      · split
        · exact h
        · split <;> exact h
theorem n_pos (i : Nat) : 0 ≤ (stAt single K S i).n := by
  obtain ⟨L, _, _, h⟩ := keys (single := single) (K := K) (S := S) i
  omega
/-- The next look at a map. -/
theorem mp_next {D : LoopY} (hr : D.r = 2000) {m : Nat} {w : Value} {x : KV} {y : SV} (hm : ∀ (j : Nat) (s : ByteArray), o.mp (m + 1) j (.string s) = cond ((stAt single K S j).has s) (some w) none) (H : Is o single K S n) (hw : y.fl (D.env o u i) = some w)
    (hx : flO (D.env o u i) x = some (cond ((stAt single K S (i + 1)).has (S i)) (some w) none)) :
    (Ob.mp .str (m + 1) (.v 2000) [(.str (.fn 33 (.v 2000)), x)] (m + 1) (.o2 .add (.v 2000) (.il 1)) [(.str (.fn 33 (.o2 .add (.v 2000) (.il 1))), .may (.fn 1005 (.o2 .add (.v 2000) (.il 1))) y)]).den (D.env o u i) := by
  have hy : flO (D.env o u i) (.may (.fn 1005 (.o2 .add (.v 2000) (.il 1))) y) = some (cond ((stAt single K S (i + 1)).has (S (i + 1))) (some w) none) := by
    have e : ((E.fn 1005 (.o2 .add (.v 2000) (.il 1))).den (D.env o u i)).B = (stAt single K S (i + 1)).has (S (i + 1)) := by
      simp only [d_fn, dI_add, d_v, dI_il, LoopY.env, hr, if_true, I_i, succ_cast, H.f1005, B_b]
    show (SV.fl (D.env o u i) y).map _ = _
    rw [hw, ← e]
    rfl
  refine mp_den hx hy (fun s => ?_)
  simp only [res_succ, d_fn, dI_add, d_v, dI_il, LoopY.env, hr, if_true, if_false, I_i, succ_cast, H.f33, hm]
  by_cases e : s = S i
  · rw [if_pos e]
    by_cases e' : s = S (i + 1)
    · rw [if_pos e', ← e', e]
    · rw [if_neg e', e]
  · rw [if_neg e, ← has_other e]
    by_cases e' : s = S (i + 1)
    · rw [if_pos e', ← e']
    · rw [if_neg e']

theorem mp1_yes {D : LoopY} (hr : D.r = 2000) (H : Is o single K S n) (h : (stAt single K S (i + 1)).has (S i) = true) :
    (Ob.mp .str 1 (.v 2000) [(.str (.fn 33 (.v 2000)), .yes (.bool (.bl true)))] 1 (.o2 .add (.v 2000) (.il 1)) [(.str (.fn 33 (.o2 .add (.v 2000) (.il 1))), .may (.fn 1005 (.o2 .add (.v 2000) (.il 1))) (.bool (.bl true)))]).den (D.env o u i) :=
  mp_next hr (m := 0) H.m1 H rfl (by rw [h]; rfl)
theorem mp1_no {D : LoopY} (hr : D.r = 2000) (H : Is o single K S n) (h : (stAt single K S (i + 1)).has (S i) = false) :
    (Ob.mp .str 1 (.v 2000) [(.str (.fn 33 (.v 2000)), .no)] 1 (.o2 .add (.v 2000) (.il 1)) [(.str (.fn 33 (.o2 .add (.v 2000) (.il 1))), .may (.fn 1005 (.o2 .add (.v 2000) (.il 1))) (.bool (.bl true)))]).den (D.env o u i) :=
  mp_next hr (m := 0) H.m1 H rfl (by rw [h]; rfl)
theorem mp1_may {D : LoopY} (hr : D.r = 2000) (H : Is o single K S n) (h : (stAt single K S (i + 1)).has (S i) = (stAt single K S i).has (S i)) :
    (Ob.mp .str 1 (.v 2000) [(.str (.fn 33 (.v 2000)), .may (.fn 1005 (.v 2000)) (.bool (.bl true)))] 1 (.o2 .add (.v 2000) (.il 1)) [(.str (.fn 33 (.o2 .add (.v 2000) (.il 1))), .may (.fn 1005 (.o2 .add (.v 2000) (.il 1))) (.bool (.bl true)))]).den (D.env o u i) := by
  refine mp_next hr (m := 0) H.m1 H rfl ?_
  have e : ((E.fn 1005 (.v 2000)).den (D.env o u i)).B = (stAt single K S i).has (S i) := by
    simp only [d_fn, d_v, LoopY.env, hr, if_true, I_i, H.f1005, B_b]
  rw [h, ← e]
  rfl
theorem mp2_yes {D : LoopY} (hr : D.r = 2000) (H : Is o single K S n) (h : (stAt single K S (i + 1)).has (S i) = true) :
    (Ob.mp .str 2 (.v 2000) [(.str (.fn 33 (.v 2000)), .yes (.agg []))] 2 (.o2 .add (.v 2000) (.il 1)) [(.str (.fn 33 (.o2 .add (.v 2000) (.il 1))), .may (.fn 1005 (.o2 .add (.v 2000) (.il 1))) (.agg []))]).den (D.env o u i) :=
  mp_next hr (m := 1) H.m2 H rfl (by rw [h]; rfl)
theorem mp2_no {D : LoopY} (hr : D.r = 2000) (H : Is o single K S n) (h : (stAt single K S (i + 1)).has (S i) = false) :
    (Ob.mp .str 2 (.v 2000) [(.str (.fn 33 (.v 2000)), .no)] 2 (.o2 .add (.v 2000) (.il 1)) [(.str (.fn 33 (.o2 .add (.v 2000) (.il 1))), .may (.fn 1005 (.o2 .add (.v 2000) (.il 1))) (.agg []))]).den (D.env o u i) :=
  mp_next hr (m := 1) H.m2 H rfl (by rw [h]; rfl)
theorem mp2_may {D : LoopY} (hr : D.r = 2000) (H : Is o single K S n) (h : (stAt single K S (i + 1)).has (S i) = (stAt single K S i).has (S i)) :
    (Ob.mp .str 2 (.v 2000) [(.str (.fn 33 (.v 2000)), .may (.fn 1005 (.v 2000)) (.agg []))] 2 (.o2 .add (.v 2000) (.il 1)) [(.str (.fn 33 (.o2 .add (.v 2000) (.il 1))), .may (.fn 1005 (.o2 .add (.v 2000) (.il 1))) (.agg []))]).den (D.env o u i) := by
  refine mp_next hr (m := 1) H.m2 H rfl ?_
  have e : ((E.fn 1005 (.v 2000)).den (D.env o u i)).B = (stAt single K S i).has (S i) := by
    simp only [d_fn, d_v, LoopY.env, hr, if_true, I_i, H.f1005, B_b]
  rw [h, ← e]
  rfl
theorem mp2_new {D : LoopY} (hr : D.r = 2000) (H : Is o single K S n) (h : (stAt single K S (i + 1)).has (S i) = true) (h0 : ∀ x, (stAt single K S i).has x = false) :
    (Ob.mp .str 0 (.il 0) [(.str (.fn 33 (.v 2000)), .yes (.agg []))] 2 (.o2 .add (.v 2000) (.il 1)) [(.str (.fn 33 (.o2 .add (.v 2000) (.il 1))), .may (.fn 1005 (.o2 .add (.v 2000) (.il 1))) (.agg []))]).den (D.env o u i) := by
  have hy : flO (D.env o u i) (.may (.fn 1005 (.o2 .add (.v 2000) (.il 1))) (.agg [])) = some (cond ((stAt single K S (i + 1)).has (S (i + 1))) (some (.agg #[])) none) := by
    have e : ((E.fn 1005 (.o2 .add (.v 2000) (.il 1))).den (D.env o u i)).B = (stAt single K S (i + 1)).has (S (i + 1)) := by
      simp only [d_fn, dI_add, d_v, dI_il, LoopY.env, hr, if_true, I_i, succ_cast, H.f1005, B_b]
    rw [← e]
    rfl
  refine mp_den (o := some (.agg #[])) rfl hy (fun s => ?_)
  simp only [res_succ, d_fn, dI_add, d_v, dI_il, LoopY.env, hr, if_true, if_false, I_i, succ_cast, H.f33, H.m2]
  by_cases e : s = S i
  · rw [if_pos e]
    by_cases e' : s = S (i + 1)
    · rw [if_pos e', ← e', e, h]; rfl
    · rw [if_neg e', e, h]; rfl
  · rw [if_neg e, has_other e, h0]
    by_cases e' : s = S (i + 1)
    · rw [if_pos e', ← e', has_other e, h0]; rfl
    · rw [if_neg e']; rfl
end
end Go.Proofs.Ytgopjdknmjjheaa.sxTracker
