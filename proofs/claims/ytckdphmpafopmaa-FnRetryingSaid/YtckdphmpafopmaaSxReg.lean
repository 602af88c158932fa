/-
  SX, PART 9: a region in the model, in the text's order and in any.
-/
import Derived.Test.YtckdphmpafopmaaSxDraw
namespace Go.Sx
open Go.RowKit
set_option linter.unusedVariables false
set_option linter.unusedSimpArgs false

def mv (t h' : Heap) (F : Foot) : Heap := fun n => if n ∈ F.wr then h' n else t n
theorem moved_mv (t h' : Heap) (F : Foot) : Moved t (mv t h' F) h' F := fun _ => rfl
theorem mv_of {t t' h' : Heap} {F : Foot} (h : Moved t t' h' F) : t' = mv t h' F := funext h

/-- An operation, from whatever state that agrees where it looks. -/
def OpOk (P : Program) (env : Env) (w0 : Anchor) (ops : Array Oper) (base i : Nat) (fr : Fr) (h : Heap) (nx : Nat) (fr' : Fr) (h' : Heap) (nx' : Nat) (cl : Bool) (F : Foot) : Prop :=
  ∃ o x, ops[i]? = some o ∧ fr'.sl = putS fr.sl o.dst x ∧ (cl = false → nx' = nx ∧ fr'.df = fr.df) ∧ nx ≤ nx' ∧
    ∀ sl2 df2 t nx2, (∀ d ∈ o.looksAt ops, sl2[d]? = fr.sl[d]?) → (∀ n ∈ F.rd, t n = h n) → (cl = true → nx2 = nx ∧ df2 = fr.df) → base + i < nx2 →
      ∀ ρ a w K Q, Sat env w0 ρ ⟨sl2, df2⟩ t nx2 a w →
        (∀ ρ' a' w', ρ.le ρ' → Sat env w0 ρ' ⟨putS sl2 o.dst x, if cl then fr'.df else df2⟩ (mv t h' F) (if cl then nx' else nx2) a' w' → K a' w') → wpOp P ops Q i K a w

structure Chain (P : Program) (env : Env) (w0 : Anchor) (ops : Array Oper) (base : Nat) (S : Nat → Fr) (H : Nat → Heap) (N : Nat → Nat) (F : Nat → Foot) (cl : Nat → Bool) : Prop where
  step : ∀ i, i < ops.size → OpOk P env w0 ops base i (S i) (H i) (N i) (S (i + 1)) (H (i + 1)) (N (i + 1)) (cl i) (F i)
  keep : ∀ i, i < ops.size → Keeps (H i) (H (i + 1)) (F i)
  start : base + ops.size ≤ N 0

section
variable {P : Program} {env : Env} {w0 : Anchor} {ops : Array Oper} {base : Nat} {S : Nat → Fr} {H : Nat → Heap} {N : Nat → Nat} {F : Nat → Foot} {cl : Nat → Bool}

theorem Chain.mono (C : Chain P env w0 ops base S H N F cl) : ∀ {i : Nat}, i ≤ ops.size → N 0 ≤ N i
  | 0, _ => Nat.le_refl _
  | i + 1, hi => by
    obtain ⟨o, x, _, _, _, h, _⟩ := C.step i (by omega)
    exact Nat.le_trans (C.mono (i := i) (by omega)) h

theorem Chain.putEq (C : Chain P env w0 ops base S H N F cl) {i : Nat} (hi : i < ops.size) : mv (H i) (H (i + 1)) (F i) = H (i + 1) := by
  funext n
  unfold mv
  by_cases h : n ∈ (F i).wr
  · rw [if_pos h]
  · rw [if_neg h, C.keep i hi n h]

/-- In the text's order. -/
theorem Chain.inOrder (C : Chain P env w0 ops base S H N F cl) {Q : Exit → Act → World → Prop} : ∀ (k i : Nat), i + k = ops.size → ∀ ρ a w, Sat env w0 ρ (S i) (H i) (N i) a w →
    (∀ ρ' a' w', ρ.le ρ' → Sat env w0 ρ' (S ops.size) (H ops.size) (N ops.size) a' w' → Q .normal a' w') → wpOps P ops Q (List.range' i k) a w
  | 0, i, hi, ρ, a, w, hs, hq => by
    obtain rfl : i = ops.size := by omega
    exact hq ρ a w (PMap.le_refl ρ) hs
  | k + 1, i, hi, ρ, a, w, hs, hq => by
    rw [List.range'_succ, wpOps_cons]
    obtain ⟨o, x, ho, hsl, hcl, hle, hok⟩ := C.step i (by omega)
    have hb : base + i < N i := by have := C.mono (i := i) (by omega); have := C.start; omega
    refine hok (S i).sl (S i).df (H i) (N i) (fun d _ => rfl) (fun n _ => rfl) (fun _ => ⟨rfl, rfl⟩) hb ρ a w _ Q hs (fun ρ' a' w' hl hs' => ?_)
    rw [C.putEq (by omega), ← hsl] at hs'
    have e1 : (⟨(S (i + 1)).sl, if cl i then (S (i + 1)).df else (S i).df⟩ : Fr) = S (i + 1) := by
      cases hc : cl i with
      | true => simp
      | false => simp only [Bool.false_eq_true, if_false]; rw [← (hcl hc).2]
    have e2 : (if cl i then N (i + 1) else N i) = N (i + 1) := by
      cases hc : cl i with
      | true => simp
      | false => simp only [Bool.false_eq_true, if_false]; exact (hcl hc).1.symm
    rw [e1, e2] at hs'
    exact C.inOrder k (i + 1) (by omega) ρ' a' w' hs' (fun ρ'' a'' w'' h1 h2 => hq ρ'' a'' w'' (PMap.le_trans hl h1) h2)

theorem putS_len {sl : List SV} {dst : Option Tmp} {v : SV} : (putS sl dst v).length = sl.length := by cases dst <;> simp [putS]
theorem putS_get {sl : List SV} {dst : Option Tmp} {v : SV} {d : Nat} : (putS sl dst v)[d]? = if dst = some d ∧ d < sl.length then some v else sl[d]? := by
  cases dst with
  | none => simp [putS]
  | some e =>
    simp only [putS, List.getElem?_set, Option.some.injEq]
    by_cases h : e = d
    · subst h
      by_cases h2 : e < sl.length
      · simp [h2]
      · simp [h2]
    · simp [h]

theorem Chain.len (C : Chain P env w0 ops base S H N F cl) : ∀ {i : Nat}, i ≤ ops.size → (S i).sl.length = (S 0).sl.length
  | 0, _ => rfl
  | i + 1, hi => by
    obtain ⟨o, x, _, h, _⟩ := C.step i (by omega)
    rw [h, putS_len]
    exact C.len (i := i) (by omega)

/-- Who writes a slot. -/
def dstIs (ops : Array Oper) (d : Nat) (k : Nat) : Bool := ((ops[k]?).bind (·.dst)) == some d

/-- The state where the operations of E are done. -/
def TE (ops : Array Oper) (S : Nat → Fr) (cl : Nat → Bool) (E : Nat → Bool) : Fr :=
  ⟨(List.range (S 0).sl.length).map fun d => pick (fun k => (S k).sl.getD d sundef) (fun k => E k && dstIs ops d k) ops.size, pick (fun k => (S k).df) (fun k => E k && cl k) ops.size⟩
def TH (ops : Array Oper) (H : Nat → Heap) (F : Nat → Foot) (E : Nat → Bool) : Heap := fun m => pick (fun k => H k m) (fun k => E k && inL m (F k).wr) ops.size
def TN (ops : Array Oper) (N : Nat → Nat) (cl : Nat → Bool) (E : Nat → Bool) : Nat := pick N (fun k => E k && cl k) ops.size

theorem Chain.slot (C : Chain P env w0 ops base S H N F cl) (d : Nat) {k : Nat} (hk : k < ops.size) (h : dstIs ops d k = false) : (S (k + 1)).sl.getD d sundef = (S k).sl.getD d sundef := by
  obtain ⟨o, x, ho, hsl, _⟩ := C.step k hk
  simp only [List.getD_eq_getElem?_getD]
  rw [hsl, putS_get]
  rw [if_neg]
  intro hc
  unfold dstIs at h
  rw [ho] at h
  simp [hc.1] at h
theorem Chain.cell (C : Chain P env w0 ops base S H N F cl) (m : Nat) {k : Nat} (hk : k < ops.size) (h : inL m (F k).wr = false) : H (k + 1) m = H k m :=
  C.keep k hk m (fun hm => by rw [inL_iff.2 hm] at h; cases h)
theorem Chain.num (C : Chain P env w0 ops base S H N F cl) {k : Nat} (hk : k < ops.size) (h : cl k = false) : N (k + 1) = N k ∧ (S (k + 1)).df = (S k).df := by
  obtain ⟨o, x, _, _, hcl, _⟩ := C.step k hk
  exact hcl h

theorem TE_get {E : Nat → Bool} {d : Nat} (hd : d < (S 0).sl.length) : (TE ops S cl E).sl[d]? = some (pick (fun k => (S k).sl.getD d sundef) (fun k => E k && dstIs ops d k) ops.size) := by
  simp [TE, hd]
theorem TE_len {E : Nat → Bool} : (TE ops S cl E).sl.length = (S 0).sl.length := by simp [TE]

/-- One more operation, from the state where those of E are done. -/
theorem Chain.one (C : Chain P env w0 ops base S H N F cl) (hok : okDraw ops F cl = true) {E E' : Nat → Bool} (hC : Closed ops E) {i : Nat} (hi : i < ops.size) (hEi : E i = false)
    (hP : ∀ o, ops[i]? = some o → PredsIn E o) (hE' : ∀ k, E' k = (E k || k == i)) {Q : Exit → Act → World → Prop} {K : Act → World → Prop} {ρ : PMap} {a : Act} {w : World}
    (hs : Sat env w0 ρ (TE ops S cl E) (TH ops H F E) (TN ops N cl E) a w)
    (hK : ∀ ρ' a' w', ρ.le ρ' → Sat env w0 ρ' (TE ops S cl E') (TH ops H F E') (TN ops N cl E') a' w' → K a' w') : wpOp P ops Q i K a w := by
  obtain ⟨o, x, ho, hsl, hcl, hle, hop⟩ := C.step i hi
  -- whoever clashes with i and stands ahead is done; whoever stands behind is not
  have ahead : ∀ k ok, k < i → ops[k]? = some ok → clash ops ok o (F k) (F i) (cl k) (cl i) = true → E k = true := fun k ok hk hko hc =>
    masks_ok hC ho (hP o ho) (okDraw_pair hok hk hko ho hc)
  have behind : ∀ k ok, i < k → ops[k]? = some ok → E k = true → clash ops o ok (F i) (F k) (cl i) (cl k) = true → False := fun k ok hk hko hEk hc => by
    have := masks_ok hC hko (fun e he hb => hC k ok hko hEk e he hb) (okDraw_pair hok hk ho hko hc)
    rw [hEi] at this; cases this
  have getop : ∀ k, k < ops.size → ∃ ok, ops[k]? = some ok := fun k hk => ⟨ops[k], Array.getElem?_eq_getElem hk⟩
  -- slots that it looks at
  have hslots : ∀ d ∈ o.looksAt ops, (TE ops S cl E).sl[d]? = (S i).sl[d]? := by
    intro d0 hd
    obtain ⟨d, rfl⟩ : ∃ d : Nat, d = d0 := ⟨d0, rfl⟩
    by_cases hlt : d < (S 0).sl.length
    · rw [TE_get hlt]
      have h1 := pick_at (V := fun k => (S k).sl.getD d sundef) (wr := dstIs ops d) (E := E) (n := ops.size) (i := i) (fun k hk h => C.slot d hk h) (by omega)
        (fun k hk hw => by
          obtain ⟨ok, hko⟩ := getop k (by omega)
          refine ahead k ok hk hko ?_
          cases hcl : clash ops ok o (F k) (F i) (cl k) (cl i) with
          | true => rfl
          | false =>
            have hdst : ok.dst = some d := by unfold dstIs at hw; rw [hko] at hw; simpa using hw
            exact absurd hd ((Oper.apart_spec (apart_of hcl).1).1 d hdst))
        (fun k hk1 hk2 hEk => by
          cases hw : dstIs ops d k with
          | false => rfl
          | true =>
            exfalso
            have hne : k ≠ i := fun e => by rw [e, hEi] at hEk; cases hEk
            obtain ⟨ok, hko⟩ := getop k hk2
            have hdst : ok.dst = some d := by unfold dstIs at hw; rw [hko] at hw; simpa using hw
            refine behind k ok (by omega) hko hEk ?_
            cases hcl : clash ops o ok (F i) (F k) (cl i) (cl k) with
            | true => rfl
            | false => exact absurd hd ((Oper.apart_spec (apart_of hcl).1).2.2 d hdst))
      rw [h1]
      have hlt2 : d < (S i).sl.length := by rw [C.len (by omega)]; exact hlt
      simp only [List.getD_eq_getElem?_getD, List.getElem?_eq_getElem hlt2, Option.getD_some]
    · rw [List.getElem?_eq_none (by rw [TE_len]; exact Nat.le_of_not_lt hlt), List.getElem?_eq_none (by rw [C.len (i := i) (by omega)]; exact Nat.le_of_not_lt hlt)]
  -- names that it reads
  have hnames : ∀ m ∈ (F i).rd, TH ops H F E m = H i m := by
    intro m hm
    exact pick_at (V := fun k => H k m) (wr := fun k => inL m (F k).wr) (E := E) (fun k hk h => C.cell m hk h) (by omega)
      (fun k hk hw => by
        obtain ⟨ok, hko⟩ := getop k (by omega)
        refine ahead k ok hk hko ?_
        cases hcl : clash ops ok o (F k) (F i) (cl k) (cl i) with
        | true => rfl
        | false => exact ((apart_of hcl).2.1 m (inL_iff.1 hw) hm).elim)
      (fun k hk1 hk2 hEk => by
        cases hw : inL m (F k).wr with
        | false => rfl
        | true =>
          exfalso
          have hne : k ≠ i := fun e => by rw [e, hEi] at hEk; cases hEk
          obtain ⟨ok, hko⟩ := getop k hk2
          refine behind k ok (by omega) hko hEk ?_
          cases hcl : clash ops o ok (F i) (F k) (cl i) (cl k) with
          | true => rfl
          | false => exact ((apart_of hcl).2.2.2.1 m hm (inL_iff.1 hw)).elim)
  have clA : cl i = true → ∀ k, k < i → cl k = true → E k = true := fun hci k hk hck => by
    obtain ⟨ok, hko⟩ := getop k (by omega)
    refine ahead k ok hk hko ?_
    cases hcl : clash ops ok o (F k) (F i) (cl k) (cl i) with
    | true => rfl
    | false => exact ((apart_of hcl).2.2.2.2 hck hci).elim
  have clB : cl i = true → ∀ k, i ≤ k → k < ops.size → E k = true → cl k = false := fun hci k hk1 hk2 hEk => by
    cases hw : cl k with
    | false => rfl
    | true =>
      exfalso
      have hne : k ≠ i := fun e => by rw [e, hEi] at hEk; cases hEk
      obtain ⟨ok, hko⟩ := getop k hk2
      refine behind k ok (by omega) hko hEk ?_
      cases hcl : clash ops o ok (F i) (F k) (cl i) (cl k) with
      | true => rfl
      | false => exact ((apart_of hcl).2.2.2.2 hci hw).elim
  have hnum : cl i = true → TN ops N cl E = N i ∧ (TE ops S cl E).df = (S i).df := fun hci =>
    ⟨pick_at (V := N) (wr := cl) (fun k hk h => (C.num hk h).1) (by omega) (clA hci) (clB hci),
     pick_at (V := fun k => (S k).df) (wr := cl) (fun k hk h => (C.num hk h).2) (by omega) (clA hci) (clB hci)⟩
  have hlow : base + i < TN ops N cl E := by
    have hst := C.start
    have : N 0 ≤ TN ops N cl E := by
      unfold TN pick
      cases hl : lastW (fun k => E k && cl k) ops.size with
      | none => exact Nat.le_refl _
      | some j =>
        have : j < ops.size := by
          clear hs hK hnames hslots hnum
          have : ∀ (p : Nat → Bool) (n j : Nat), lastW p n = some j → j < n := by
            intro p n
            induction n with
            | zero => intro j h; cases h
            | succ n ih =>
              intro j h
              simp only [lastW] at h
              split at h
              · injection h with h; omega
              · have := ih j h; omega
          exact this _ _ _ hl
        exact C.mono (by omega)
    omega
  refine hop (TE ops S cl E).sl (TE ops S cl E).df (TH ops H F E) (TN ops N cl E) hslots hnames hnum hlow ρ a w K Q hs (fun ρ' a' w' hl hs' => hK ρ' a' w' hl ?_)
  -- the state behind it
  have e1 : putS (TE ops S cl E).sl o.dst x = (TE ops S cl E').sl := by
    apply List.ext_getElem?
    intro d
    rw [putS_get, TE_len]
    by_cases hlt : d < (S 0).sl.length
    · by_cases hd : o.dst = some d
      · rw [if_pos ⟨hd, hlt⟩, TE_get hlt]
        have hw : dstIs ops d i = true := by unfold dstIs; rw [ho]; simp [hd]
        have := pick_put (V := fun k => (S k).sl.getD d sundef) (wr := dstIs ops d) (E := E) (E' := E') hi hE' hw (fun k hk1 hk2 hEk => by
          cases hwk : dstIs ops d k with
          | false => rfl
          | true =>
            exfalso
            obtain ⟨ok, hko⟩ := getop k hk2
            have hdst : ok.dst = some d := by unfold dstIs at hwk; rw [hko] at hwk; simpa using hwk
            refine behind k ok hk1 hko hEk ?_
            cases hcl : clash ops o ok (F i) (F k) (cl i) (cl k) with
            | true => rfl
            | false => exact absurd hdst ((Oper.apart_spec (apart_of hcl).1).2.1 d hd))
        rw [this]
        have hlt2 : d < (S i).sl.length := by rw [C.len (by omega)]; exact hlt
        simp only [List.getD_eq_getElem?_getD]
        rw [hsl, putS_get, if_pos ⟨hd, hlt2⟩]
        rfl
      · rw [if_neg (fun hc => hd hc.1), TE_get hlt, TE_get hlt]
        congr 1
        exact (pick_pass hE' (by unfold dstIs; rw [ho]; simpa using hd)).symm
    · rw [if_neg (fun hc => hlt hc.2), List.getElem?_eq_none (by rw [TE_len]; omega), List.getElem?_eq_none (by rw [TE_len]; omega)]
  have e2 : (if cl i then (S (i + 1)).df else (TE ops S cl E).df) = (TE ops S cl E').df := by
    cases hc : cl i with
    | true =>
      simp only [if_true]
      exact (pick_put (V := fun k => (S k).df) (wr := cl) hi hE' hc (fun k h1 h2 h3 => clB hc k (by omega) h2 h3)).symm
    | false =>
      simp only [Bool.false_eq_true, if_false]
      exact (pick_pass (V := fun k => (S k).df) hE' hc).symm
  have e3 : mv (TH ops H F E) (H (i + 1)) (F i) = TH ops H F E' := by
    funext m
    unfold mv
    by_cases hm : m ∈ (F i).wr
    · rw [if_pos hm]
      exact (pick_put (V := fun k => H k m) (wr := fun k => inL m (F k).wr) hi hE' (inL_iff.2 hm) (fun k hk1 hk2 hEk => by
        cases hw : inL m (F k).wr with
        | false => rfl
        | true =>
          exfalso
          obtain ⟨ok, hko⟩ := getop k hk2
          refine behind k ok hk1 hko hEk ?_
          cases hcl : clash ops o ok (F i) (F k) (cl i) (cl k) with
          | true => rfl
          | false => exact ((apart_of hcl).2.2.1 m hm (inL_iff.1 hw)).elim)).symm
    · rw [if_neg hm]
      refine (pick_pass hE' ?_).symm
      cases hw : inL m (F i).wr with
      | false => rfl
      | true => exact absurd (inL_iff.1 hw) hm
  have e4 : (if cl i then N (i + 1) else TN ops N cl E) = TN ops N cl E' := by
    cases hc : cl i with
    | true =>
      simp only [if_true]
      exact (pick_put (V := N) (wr := cl) hi hE' hc (fun k h1 h2 h3 => clB hc k (by omega) h2 h3)).symm
    | false =>
      simp only [Bool.false_eq_true, if_false]
      exact (pick_pass hE' hc).symm
  rw [e1, e2, e3, e4] at hs'
  exact hs'

/-- All done: the state of the text's order. -/
theorem Chain.all (C : Chain P env w0 ops base S H N F cl) {E : Nat → Bool} (hE : ∀ k, k < ops.size → E k = true) :
    TE ops S cl E = S ops.size ∧ TH ops H F E = H ops.size ∧ TN ops N cl E = N ops.size := by
  have one : ∀ {α : Type} (V : Nat → α) (wr : Nat → Bool), (∀ k, k < ops.size → wr k = false → V (k + 1) = V k) → pick V (fun k => E k && wr k) ops.size = V ops.size := fun V wr h =>
    pick_at h (Nat.le_refl _) (fun k hk _ => hE k hk) (fun k h1 h2 => by omega)
  refine ⟨?_, ?_, one N cl (fun k hk h => (C.num hk h).1)⟩
  · have h1 : (TE ops S cl E).sl = (S ops.size).sl := by
      apply List.ext_getElem?
      intro d
      by_cases hlt : d < (S 0).sl.length
      · rw [TE_get hlt, one (fun k => (S k).sl.getD d sundef) (dstIs ops d) (fun k hk h => C.slot d hk h)]
        have hlt2 : d < (S ops.size).sl.length := by rw [C.len (Nat.le_refl _)]; exact hlt
        simp only [List.getD_eq_getElem?_getD, List.getElem?_eq_getElem hlt2, Option.getD_some]
      · rw [List.getElem?_eq_none (by rw [TE_len]; omega), List.getElem?_eq_none (by rw [C.len (Nat.le_refl _)]; omega)]
    have h2 : (TE ops S cl E).df = (S ops.size).df := one (fun k => (S k).df) cl (fun k hk h => (C.num hk h).2)
    cases hS : S ops.size with
    | mk sl df => rw [hS] at h1 h2; cases hT : TE ops S cl E with | mk sl' df' => rw [hT] at h1 h2; simp only at h1 h2; rw [h1, h2]
  · funext m
    exact one (fun k => H k m) (fun k => inL m (F k).wr) (fun k hk h => C.cell m hk h)
theorem Chain.none (C : Chain P env w0 ops base S H N F cl) {E : Nat → Bool} (hE : ∀ k, k < ops.size → E k = false) :
    TE ops S cl E = S 0 ∧ TH ops H F E = H 0 ∧ TN ops N cl E = N 0 := by
  have one : ∀ {α : Type} (V : Nat → α) (wr : Nat → Bool), pick V (fun k => E k && wr k) ops.size = V 0 := fun V wr =>
    pick_none (fun k hk => by rw [hE k hk]; rfl)
  refine ⟨?_, funext fun m => one _ _, one _ _⟩
  have h1 : (TE ops S cl E).sl = (S 0).sl := by
    apply List.ext_getElem?
    intro d
    by_cases hlt : d < (S 0).sl.length
    · rw [TE_get hlt, one (fun k => (S k).sl.getD d sundef) (dstIs ops d)]
      simp only [List.getD_eq_getElem?_getD, List.getElem?_eq_getElem hlt, Option.getD_some]
    · rw [List.getElem?_eq_none (by rw [TE_len]; omega), List.getElem?_eq_none (by omega)]
  have h2 : (TE ops S cl E).df = (S 0).df := one (fun k => (S k).df) cl
  cases hS : S 0 with
  | mk sl df => rw [hS] at h1 h2; cases hT : TE ops S cl E with | mk sl' df' => rw [hT] at h1 h2; simp only at h1 h2; rw [h1, h2]

/-- How many are not yet done. -/
def undone (ops : Array Oper) (listed : Array Bool) : Nat := (List.range ops.size).countP fun j => !listed.getD j false

theorem Chain.anyOrder (C : Chain P env w0 ops base S H N F cl) (hok : okDraw ops F cl = true) {Q : Exit → Act → World → Prop} : ∀ (fuel : Nat) (listed : Array Bool), listed.size = ops.size → undone ops listed = fuel →
    Closed ops (fun j => listed.getD j false) → ∀ ρ a w, Sat env w0 ρ (TE ops S cl fun j => listed.getD j false) (TH ops H F fun j => listed.getD j false) (TN ops N cl fun j => listed.getD j false) a w →
    (∀ ρ' a' w', ρ.le ρ' → Sat env w0 ρ' (S ops.size) (H ops.size) (N ops.size) a' w' → Q .normal a' w') → wpAny P .any ops Q fuel listed a w := by
  have hback : back ops = true := by unfold okDraw at hok; simp only [Bool.and_eq_true] at hok; exact hok.1.1
  intro fuel
  induction fuel with
  | zero =>
    intro listed hsz hun hC ρ a w hs hq
    have hall : ∀ k, k < ops.size → listed.getD k false = true := fun k hk => by
      have := List.countP_eq_zero.1 hun k (List.mem_range.2 hk)
      simpa using this
    obtain ⟨h1, h2, h3⟩ := C.all hall
    rw [h1, h2, h3] at hs
    refine ⟨?_, hq ρ a w (PMap.le_refl ρ) hs⟩
    unfold Region.ready
    rw [List.filter_eq_nil_iff]
    intro k hk
    have hk' := List.mem_range.1 hk
    have := hall k hk'
    have hlt : k < listed.size := by omega
    simp [hlt] at this ⊢
    intro hf; rw [this] at hf; cases hf
  | succ fuel ih =>
    intro listed hsz hun hC ρ a w hs hq
    refine ⟨fun hnil => ?_, fun i hi => ?_⟩
    · -- nothing is ready: then all is done
      exfalso
      have hall : ∀ k, k < ops.size → listed.getD k false = true := by
        intro k
        induction k using Nat.strongRecOn with
        | _ k ihk =>
          intro hk
          cases hkl : listed.getD k false with
          | true => rfl
          | false =>
            exfalso
            have hlt : k < listed.size := by omega
            have : k ∈ Region.ready .any ops listed := by
              rw [mem_ready]
              refine ⟨?_, ops[k], Array.getElem?_eq_getElem hk, fun e he hb => ?_⟩
              · simp [hlt] at hkl ⊢; exact hkl
              · have hlt2 := back_spec hback (Array.getElem?_eq_getElem hk) e he hb
                exact ihk e.on hlt2 (by omega)
            rw [hnil] at this
            cases this
      have : undone ops listed = 0 := List.countP_eq_zero.2 (fun k hk => by
        have := hall k (List.mem_range.1 hk)
        simp only [this]; simp)
      omega
    · rw [mem_ready] at hi
      obtain ⟨h0, o, ho, hpre⟩ := hi
      have hin : i < ops.size := (Array.getElem?_eq_some_iff.1 ho).1
      have hlt : i < listed.size := by omega
      have hEi : listed.getD i false = false := by simp [hlt] at h0 ⊢; exact h0
      have hE' : ∀ k, (listed.setIfInBounds i true).getD k false = (listed.getD k false || k == i) := by
        intro k
        by_cases e : k = i
        · subst e; simp [hlt]
        · have : (k == i) = false := by rw [beq_eq_false_iff_ne]; exact e
          rw [this, getD_set_ne false (fun h => e h.symm)]
          simp
      have hC' : Closed ops (fun j => (listed.setIfInBounds i true).getD j false) := by
        intro j oj hj hEj e he hb
        simp only [hE', Bool.or_eq_true, beq_iff_eq] at hEj ⊢
        rcases hEj with h | h
        · exact .inl (hC j oj hj h e he hb)
        · subst h
          rw [ho] at hj; injection hj with hj; subst hj
          exact .inl (hpre e he hb)
      have hun' : undone ops (listed.setIfInBounds i true) = fuel := by
        have : undone ops listed = undone ops (listed.setIfInBounds i true) + 1 := by
          unfold undone
          exact countP_one (p := fun j => !listed.getD j false) (q := fun j => !(listed.setIfInBounds i true).getD j false) (List.mem_range.2 hin) List.nodup_range (by simp only [hEi]; rfl)
            (fun k => by simp only [hE']; by_cases e : k = i <;> simp [e])
        omega
      refine C.one hok hC hin hEi (fun o' ho' => by rw [ho] at ho'; injection ho' with ho'; subst ho'; exact hpre) hE' hs (fun ρ' a' w' hl hs' => ?_)
      exact ih _ (by simp [hsz]) hun' hC' ρ' a' w' hs' (fun ρ'' a'' w'' h1 h2 => hq ρ'' a'' w'' (PMap.le_trans hl h1) h2)
where
  countP_one {p q : Nat → Bool} {i : Nat} : ∀ {l : List Nat}, i ∈ l → l.Nodup → p i = true → (∀ k, q k = (p k && !(k == i))) → l.countP p = l.countP q + 1
    | [], hm, _, _, _ => by cases hm
    | x :: r, hm, hnd, hp, hq => by
      rw [List.nodup_cons] at hnd
      by_cases e : x = i
      · subst e
        have hqx : q x = false := by rw [hq]; simp
        have hrest : r.countP p = r.countP q := by
          apply List.countP_congr
          intro k hk
          have : k ≠ x := fun e => hnd.1 (e ▸ hk)
          rw [hq]; simp [this]
        simp [List.countP_cons, hp, hqx, hrest]
      · have hm' : i ∈ r := by rcases List.mem_cons.1 hm with h | h; exact absurd h.symm e; exact h
        have ih := countP_one hm' hnd.2 hp hq
        have hqx : q x = p x := by rw [hq]; simp [e]
        simp only [List.countP_cons, hqx, ih]
        omega

end
end Go.Sx
