/-
  SX, PART 26a: a row's content as a tree.
-/
import Derived.Test.YtckdphmpafopmaaSxLoopE
namespace Go.Sx
open Go.RowKit
set_option linter.unusedVariables false
set_option linter.unusedSimpArgs false

/-! ### a row's content as a tree -/
def dksT (P : Program) (T : TypeId) : Option DKs := (flatT P 10 T).bind dksOf
def celC : DK → SV → Option E
  | .int k, .int k' e => cond (kSame k k') (some e) none
  | .bool, .bool e => some e
  | .str, .str e => some e
  | .sl ks, .dsl ks' e => cond (ks.same ks') (some e) none
  | .sl ks, .nilsl => some (.il 0)
  | _, _ => none
def rowC : DKs → List SV → Option E
  | .nil, [] => some (.il 0)
  | .cons k r, x :: xs =>
    match celC k x, rowC r xs with
    | some a, some b => some (.o2 .cel a b)
    | _, _ => none
  | _, _ => none
def tcatE (a b : E) : E :=
  match a, b with
  | .il _, b => b
  | a, .il _ => a
  | a, b => .o2 .tcat a b
def tailC (ks : DKs) : List (List SV) → Option E
  | [] => some (.il 0)
  | t :: r =>
    match rowC ks t, tailC ks r with
    | some a, some b => some (tcatE a b)
    | _, _ => none
def projC : DKs → E → Nat → List Col → Bool
  | .nil, _, _, [] => true
  | .cons k r, e, j, .tc k' e' j' :: cs => k.same k' && e.same e' && Nat.beq j j' && projC r e (j + 1) cs
  | _, _, _, _ => false
def headE : List Col → Option E
  | .tc _ e _ :: _ => some e
  | _ => none
def baseC (ks : DKs) (len : E) (cols : List Col) : Option (E × List Ob) :=
  match headE cols with
  | some e => cond (projC ks e 0 cols) (some (cond (len.same (mk1 .tlen e)) (e, []) (.o2 .ttake e len, [.e (leE (.il 0) len), .e (leE len (mk1 .tlen e))]))) none
  | none => cond (cols.isEmpty && isNought len) (some (.il 0, [])) none

section
variable {env : Env} {ρ : PMap}
theorem tcatE_T (a b : E) : ((tcatE a b).den env).T = (a.den env).T ++ (b.den env).T := by
  unfold tcatE
  split
  · rfl
  · show _ = _ ++ []; rw [List.append_nil]
  · rfl
theorem celC_ok {k : DK} {x : SV} {e : E} {v : Value} (h : celC k x = some e) (hx : x.Rel env ρ v) : k.Rel ρ.fz (e.den env) v := by
  cases k <;> cases x <;> simp only [celC] at h <;> try (cases h; done)
  · rename_i k k' a
    cases hk : kSame k k' with
    | false => rw [hk] at h; cases h
    | true =>
      rw [hk] at h
      simp only [cond_true, Option.some.injEq] at h
      subst h
      rw [kSame_eq' hk]
      exact hx
  · simp only [Option.some.injEq] at h; subst h; exact hx
  · simp only [Option.some.injEq] at h; subst h; exact hx
  · simp only [Option.some.injEq] at h; subst h
    simp only [SV.Rel] at hx
    subst hx
    simp only [DK.Rel]
    exact ⟨none, 0, rfl, Nat.le_refl 0, fun hl => absurd hl (Nat.lt_irrefl 0)⟩
  · rename_i ks ks' a
    cases hk : ks.same ks' with
    | false => rw [hk] at h; cases h
    | true =>
      rw [hk] at h
      simp only [cond_true, Option.some.injEq] at h
      subst h
      rw [DKs.same_eq hk]
      exact hx
theorem rowC_ok : ∀ {ks : DKs} {t : List SV} {e : E} {vs : List Value}, rowC ks t = some e → SV.Rels env ρ t vs →
    ∃ r, (e.den env).T.head?.getD [] = r ∧ (0 < ks.len → (e.den env).T = [r]) ∧ ∀ (row : Nat → Dv) (cell : Nat → Option Value) j, (∀ m, row (j + m) = (r[m]?).getD (.i 0)) → (∀ m, m < ks.len → cell (j + m) = vs[m]?) → ks.Rel ρ.fz row cell j
  | .nil, [], e, vs, h, _ => by
    simp only [rowC, Option.some.injEq] at h
    subst h
    exact ⟨[], rfl, fun h => absurd h (Nat.lt_irrefl 0), fun _ _ _ _ _ => trivial⟩
  | .nil, _ :: _, _, _, h, _ => by cases h
  | .cons _ _, [], _, _, h, _ => by cases h
  | .cons k r, x :: xs, e, vs, h, hr => by
    simp only [rowC] at h
    split at h
    · rename_i a b h1 h2
      injection h with h
      subst h
      simp only [SV.Rels] at hr
      obtain ⟨v, q, rfl, hx, hxs⟩ := hr
      obtain ⟨l, e1, _, e3⟩ := rowC_ok h2 hxs
      refine ⟨a.den env :: l, ?_, fun _ => ?_, fun row cell j hrow hcell => ?_⟩
      · show ((a.den env) :: ((b.den env).T.head?.getD [])) = _; rw [e1]
      · show [((a.den env) :: ((b.den env).T.head?.getD []))] = _; rw [e1]
      · simp only [DKs.Rel]
        refine ⟨⟨v, by have := hcell 0 (Nat.succ_pos _); simpa using this, ?_⟩, e3 row cell (j + 1) (fun m => ?_) (fun m hm => ?_)⟩
        · have := hrow 0
          rw [Nat.add_zero] at this
          rw [this]
          exact celC_ok h1 hx
        · have := hrow (m + 1)
          rw [show j + (m + 1) = j + 1 + m by omega] at this
          rw [this]; simp
        · have := hcell (m + 1) (by simp only [DKs.len]; omega)
          rw [show j + (m + 1) = j + 1 + m by omega] at this
          rw [this]; simp
    · cases h
theorem tailC_ok {ks : DKs} (hk : 0 < ks.len) : ∀ {tail : List (List SV)} {e : E} {tl : List Value}, tailC ks tail = some e → SV.Rels env ρ tail.flatten tl → (∀ t ∈ tail, t.length = ks.len) →
    (e.den env).T.length = tail.length ∧ ∀ i, i < tail.length → ks.Rel ρ.fz (fun j => (e.den env).at i j) (fun j => tl[i * ks.len + j]?) 0
  | [], e, tl, h, _, _ => by
    simp only [tailC, Option.some.injEq] at h
    subst h
    exact ⟨rfl, fun i hi => absurd hi (Nat.not_lt_zero i)⟩
  | t :: r, e, tl, h, hr, hl => by
    simp only [tailC] at h
    split at h
    · rename_i a b h1 h2
      injection h with h
      subst h
      have ht := hl t (List.mem_cons_self ..)
      rw [List.flatten_cons] at hr
      have hra := hr.take t.length
      have hrb := hr.drop t.length
      rw [List.take_left] at hra
      rw [List.drop_left] at hrb
      obtain ⟨l, e1, e2, e3⟩ := rowC_ok h1 hra
      have e2 := e2 hk
      obtain ⟨g1, g2⟩ := tailC_ok hk h2 hrb (fun u hu => hl u (List.mem_cons_of_mem _ hu))
      have hT : ((tcatE a b).den env).T = l :: (b.den env).T := by rw [tcatE_T, e2]; rfl
      refine ⟨by rw [hT, List.length_cons, g1, List.length_cons], fun i hi => ?_⟩
      cases i with
      | zero =>
        refine e3 _ _ 0 (fun m => ?_) (fun m hm => ?_)
        · show Dv.at _ 0 (0 + m) = _
          unfold Dv.at
          rw [hT, Nat.zero_add]; rfl
        · show tl[0 * ks.len + (0 + m)]? = _
          rw [Nat.zero_mul, Nat.zero_add, Nat.zero_add, List.getElem?_take_of_lt (by omega)]
      | succ i =>
        have := g2 i (by simpa using hi)
        have e4 : (fun j => ((tcatE a b).den env).at (i + 1) j) = fun j => (b.den env).at i j := by
          funext j
          unfold Dv.at
          rw [hT]; rfl
        have e5 : (fun j => tl[(i + 1) * ks.len + j]?) = fun j => (tl.drop t.length)[i * ks.len + j]? := by
          funext j
          rw [List.getElem?_drop, ht]
          congr 1
          rw [Nat.succ_mul]; omega
        rw [e4, e5]
        exact this
    · cases h
theorem projC_ok {e : E} {i : Nat} {f : Nat → Option Value} : ∀ {ks : DKs} {j : Nat} {cols : List Col}, projC ks e j cols = true → (∀ (m : Nat) (col : Col), cols[m]? = some col → ∃ v, f (j + m) = some v ∧ (col.at (.il i)).Rel env ρ v) →
    ks.Rel ρ.fz (fun j => (e.den env).at i j) f j ∧ cols.length = ks.len
  | .nil, j, [], _, _ => ⟨trivial, rfl⟩
  | .nil, _, _ :: _, h, _ => by cases h
  | .cons _ _, _, [], h, _ => by cases h
  | .cons k r, j, c :: cs, h, hc => by
    cases c with
    | tc k' e' j' =>
      simp only [projC, Bool.and_eq_true] at h
      obtain ⟨⟨⟨h1, h2⟩, h3⟩, h4⟩ := h
      obtain ⟨g1, g2⟩ := projC_ok (i := i) (f := f) h4 (fun m col hm => by
        have := hc (m + 1) col (by simpa using hm)
        rw [show j + (m + 1) = j + 1 + m by omega] at this
        exact this)
      refine ⟨?_, by simp [g2, DKs.len]⟩
      simp only [DKs.Rel]
      refine ⟨?_, g1⟩
      obtain ⟨v, hv, hr⟩ := hc 0 _ rfl
      refine ⟨v, by simpa using hv, ?_⟩
      rw [Col.at, dcellS_rel, ← DK.same_eq h1, ← E.same_eq h2, ← Nat.eq_of_beq_eq_true h3] at hr
      exact hr
    | _ => cases h
theorem baseC_ok {ks : DKs} {len e : E} {cols : List Col} {obs : List Ob} {base : List Value} (h : baseC ks len cols = some (e, obs)) (ht : AllT env obs) (hk : 0 < ks.len)
    (hb : ∀ (i : Nat), i < (len.den env).I.toNat → ∀ (j : Nat) (col : Col), cols[j]? = some col → ∃ v, base[i * ks.len + j]? = some v ∧ (col.at (.il i)).Rel env ρ v) :
    (len.den env).I = (e.den env).T.length ∧ ∀ i, i < (e.den env).T.length → ks.Rel ρ.fz (fun j => (e.den env).at i j) (fun j => base[i * ks.len + j]?) 0 := by
  unfold baseC at h
  split at h
  · rename_i x hx
    cases hp : projC ks x 0 cols with
    | false => rw [hp] at h; cases h
    | true =>
      rw [hp] at h
      simp only [cond_true, Option.some.injEq] at h
      have row : ∀ i, i < (len.den env).I.toNat → ks.Rel ρ.fz (fun j => (x.den env).at i j) (fun j => base[i * ks.len + j]?) 0 := fun i hi =>
        (projC_ok (i := i) (f := fun j => base[i * ks.len + j]?) hp fun m col hm => by
          obtain ⟨v, h1, h2⟩ := hb i hi m col hm
          exact ⟨v, by show base[i * ks.len + (0 + m)]? = _; rw [Nat.zero_add]; exact h1, h2⟩).1
      cases hs : len.same (mk1 .tlen x) with
      | true =>
        rw [hs] at h
        simp only [cond_true, Prod.mk.injEq] at h
        obtain ⟨rfl, rfl⟩ := h
        have hlen : (len.den env).I = (x.den env).T.length := by rw [E.same_eq hs, mk1_den]; rfl
        exact ⟨hlen, fun i hi => row i (by omega)⟩
      | false =>
        rw [hs] at h
        simp only [cond_false, Prod.mk.injEq] at h
        obtain ⟨rfl, rfl⟩ := h
        have h0 : ((leE (.il 0) len).den env).B = true := ht _ (List.mem_cons_self ..)
        have h1 : ((leE len (mk1 .tlen x)).den env).B = true := ht _ (List.mem_cons_of_mem _ (List.mem_cons_self ..))
        rw [leE_iff] at h0 h1
        rw [mk1_den] at h1
        have h0 : (0 : Int) ≤ (len.den env).I := h0
        have h1 : (len.den env).I ≤ ((x.den env).T.length : Int) := h1
        have hT : ((E.o2 .ttake x len).den env).T = (x.den env).T.take (len.den env).I.toNat := rfl
        have hTl : ((E.o2 .ttake x len).den env).T.length = (len.den env).I.toNat := by rw [hT, List.length_take]; omega
        refine ⟨by rw [hTl]; omega, fun i hi => ?_⟩
        rw [hTl] at hi
        have e1 : (fun j => ((E.o2 .ttake x len).den env).at i j) = fun j => (x.den env).at i j := by
          funext j
          unfold Dv.at
          rw [hT, List.getElem?_take_of_lt hi]
        rw [e1]
        exact row i hi
  · cases hc : (cols.isEmpty && isNought len) with
    | false => rw [hc] at h; cases h
    | true =>
      rw [hc] at h
      simp only [cond_true, Option.some.injEq, Prod.mk.injEq] at h
      obtain ⟨rfl, rfl⟩ := h
      rw [Bool.and_eq_true] at hc
      have h0 : (len.den env).I = 0 := by
        have := hc.2
        unfold isNought at this
        split at this
        · rfl
        · cases this
      exact ⟨by rw [h0]; rfl, fun i hi => absurd hi (Nat.not_lt_zero i)⟩
end

end Go.Sx
