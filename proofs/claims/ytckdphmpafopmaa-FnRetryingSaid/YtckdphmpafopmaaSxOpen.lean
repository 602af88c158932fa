/-
  SX, PART 15: a law's arguments, opened: numbers, booleans, texts, plain structs, and slices of these.
-/
import Derived.Test.YtckdphmpafopmaaSxDeep
import Derived.ChangeArms
namespace Go.Sx
open Go.RowKit
set_option linter.unusedVariables false
set_option linter.unusedSimpArgs false

inductive CK where
  | int (k : IntKind)
  | bool
  | str
  | dsl (ks : DKs)
  | other

def CK.ok (W : World) : CK → Value → Prop
  | .int k, v => ∃ n, v = .int k n ∧ minK k ≤ n ∧ n ≤ maxK k
  | .bool, v => ∃ b, v = .bool b
  | .str, v => ∃ s : ByteArray, v = .string s ∧ s.size ≤ maxLen
  | .dsl ks, v => (DK.sl ks).okV W v
  | .other, v => True

/-- Kinds of cells of data. -/
def CK.dk : CK → Option DK
  | .int k => some (.int k)
  | .bool => some .bool
  | .str => some .str
  | .dsl ks => some (.sl ks)
  | .other => none
def dksOf : List CK → Option DKs
  | [] => some .nil
  | k :: r =>
    match k.dk, dksOf r with
    | some a, some b => some (.cons a b)
    | _, _ => none
theorem dksOf_len : ∀ {l : List CK} {ks : DKs}, dksOf l = some ks → ks.len = l.length
  | [], ks, h => by simp only [dksOf, Option.some.injEq] at h; subst h; rfl
  | k :: r, ks, h => by
    simp only [dksOf] at h
    split at h
    · rename_i a b h1 h2; injection h with h; subst h; simp [DKs.len, dksOf_len h2]
    · cases h
theorem CK.dk_ok {W : World} {k : CK} {d : DK} {v : Value} (h : k.dk = some d) (hv : k.ok W v) : d.okV W v := by
  cases k <;> simp only [CK.dk, Option.some.injEq] at h <;> first
    | (cases h; done)
    | (subst h; simp only [DK.okV]; exact hv; done)
    | (subst h; exact hv)
theorem dksOf_ok {W : World} {cell : Nat → Option Value} : ∀ {l : List CK} {ks : DKs} {j : Nat}, dksOf l = some ks → (∀ (i : Nat) (k : CK), l[i]? = some k → ∃ v, cell (j + i) = some v ∧ k.ok W v) → ks.okV W cell j
  | [], ks, j, h, _ => by simp only [dksOf, Option.some.injEq] at h; subst h; trivial
  | k :: r, ks, j, h, hc => by
    simp only [dksOf] at h
    split at h
    · rename_i a b h1 h2
      injection h with h; subst h
      simp only [DKs.okV]
      obtain ⟨v, hv, hk⟩ := hc 0 k rfl
      exact ⟨⟨v, hv, CK.dk_ok h1 hk⟩, dksOf_ok h2 fun i k' hi => by
        have := hc (i + 1) k' (by simpa using hi)
        rw [show j + 1 + i = j + (i + 1) by omega]; exact this⟩
    · cases h

/-- The cells of a plain type. -/
def flatFs (P : Program) (g : TypeId → Option (List CK)) : List Field → Nat → Option (List CK)
  | [], _ => some []
  | f :: r, o =>
    match g f.type, flatFs P g r (o + P.cellsOf f.type) with
    | some ks, some l => cond (Nat.beq f.offset o && Nat.beq ks.length (P.cellsOf f.type)) (some (ks ++ l)) none
    | _, _ => none
def flatT (P : Program) : Nat → TypeId → Option (List CK)
  | 0, _ => none
  | n + 1, t =>
    match P.underlying t with
    | some (.int k) => some [.int k]
    | some .bool => some [.bool]
    | some .string => some [.str]
    | some (.slice e) =>
      match flatT P n e with
      | some l =>
        match dksOf l with
        | some ks => cond (Nat.beq l.length (P.cellsOf e) && Nat.blt 0 (P.cellsOf e)) (some [.dsl ks]) (some [.other])
        | none => some [.other]
      | none => some [.other]
    | some (.struct fs) =>
      match flatFs P (flatT P n) fs.toList 0 with
      | some l => cond (Nat.beq l.length (P.cellsOf t)) (some l) none
      | none => none
    | _ => none

theorem add_cell {W : World} {a : Addr} {i : Nat} {v : Value} (h : W.cell? (a.add i) = some v) : W.cell? ⟨a.block, a.off + i, none⟩ = some v := by
  unfold Addr.add at h
  split at h
  · rename_i hi
    subst hi
    unfold World.cell? at h ⊢
    cases hb : W.heap[a.block]? with
    | none => rw [hb] at h; cases h
    | some o =>
      rw [hb] at h
      cases o with
      | cells c t fr =>
        simp only at h ⊢
        cases hs : a.spot.isSome with
        | true => rw [hs] at h; simp at h
        | false => rw [hs] at h; simpa using h
      | _ => cases h
  · exact h

theorem add_add {W : World} {a : Addr} {i j : Nat} {v : Value} (h : W.cell? ((a.add i).add j) = some v) : W.cell? ⟨a.block, a.off + i + j, none⟩ = some v := by
  have := add_cell h
  unfold Addr.add at this
  split at this
  · rename_i hi; subst hi; simpa using this
  · exact this

theorem spot_of_cell {W : World} {a : Addr} {v : Value} (h : W.cell? a = some v) : a.spot = none ∧ a.block < W.heap.size := by
  unfold World.cell? at h
  cases hb : W.heap[a.block]? with
  | none => rw [hb] at h; cases h
  | some o =>
    rw [hb] at h
    refine ⟨?_, (Array.getElem?_eq_some_iff.1 hb).1⟩
    cases o with
    | cells c t fr =>
      simp only at h
      cases hs : a.spot with
      | none => rfl
      | some _ => rw [hs] at h; simp at h
    | _ => cases h

section
open Go.ChangeShapes Go.WideShapes Go.ChangeAt
variable {H : Type} {enc : TypeId × Value → H} {P : Program} {w : World} {base : Nat} {sp : Nat → Bool} {held : Bool}

def CellsOk (W : World) (ks : List CK) (cs : List Value) : Prop := cs.length = ks.length ∧ ∀ (j : Nat) (k : CK), ks[j]? = some k → ∃ v, cs[j]? = some v ∧ k.ok W v

theorem wf_range {k : IntKind} {n : Int} (h : (Lit.int k n).wf = true) : minK k ≤ n ∧ n ≤ maxK k := by
  cases k <;> simpa [Lit.wf, minK, maxK, IntKind.min, IntKind.max, IntKind.signed, IntKind.bits] using h

theorem cellsOk_one {k : CK} {v : Value} (h : k.ok w v) : CellsOk w [k] [v] := ⟨rfl, fun j k' hj => by
  cases j with
  | zero => simp at hj; subst hj; exact ⟨v, rfl, h⟩
  | succ j => simp at hj⟩

theorem flatFs_ok {n : Nat} (ih : ∀ {t : TypeId} {cs : List Value} {x : DataW H × List MemPlace} {fuel : Nat} {ks : List CK}, flatT P n t = some ks → DataW.trod enc P w base sp held fuel t cs = some x → CellsOk w ks cs)
    {cs : List Value} {m : Nat} : ∀ (fs : List Field) (o : Nat) {l : List CK}, flatFs P (flatT P n) fs o = some l → o + l.length ≤ cs.length →
    (∀ f ∈ fs, ∃ x, DataW.trod enc P w base sp held m f.type ((cs.drop f.offset).take (P.cellsOf f.type)) = some x) →
    ∀ (j : Nat) (k : CK), l[j]? = some k → ∃ v, cs[o + j]? = some v ∧ k.ok w v
  | [], o, l, hl, _, _, j, k, hj => by simp [flatFs] at hl; subst hl; simp at hj
  | f :: r, o, l, hl, hlen, hx, j, k, hj => by
    unfold flatFs at hl
    cases h1 : flatT P n f.type with
    | none => rw [h1] at hl; simp at hl
    | some ks =>
      rw [h1] at hl
      cases h2 : flatFs P (flatT P n) r (o + P.cellsOf f.type) with
      | none => rw [h2] at hl; simp at hl
      | some l2 =>
        rw [h2] at hl
        simp only at hl
        cases hc : (Nat.beq f.offset o && Nat.beq ks.length (P.cellsOf f.type)) with
        | false => rw [hc] at hl; simp at hl
        | true =>
          rw [hc] at hl
          simp only [cond_true, Option.some.injEq] at hl
          subst hl
          simp only [Bool.and_eq_true, Nat.beq_eq] at hc
          obtain ⟨ho, hk⟩ := hc
          obtain ⟨x, hxf⟩ := hx f (List.mem_cons_self ..)
          have hone := ih h1 hxf
          by_cases hjk : j < ks.length
          · rw [List.getElem?_append_left hjk] at hj
            obtain ⟨v, hv, hok⟩ := hone.2 j k hj
            refine ⟨v, ?_, hok⟩
            rw [List.getElem?_take_of_lt (by omega), List.getElem?_drop, ho] at hv
            exact hv
          · rw [List.getElem?_append_right (by omega)] at hj
            obtain ⟨v, hv, hok⟩ := flatFs_ok ih r (o + P.cellsOf f.type) h2 (by simp only [List.length_append] at hlen; omega) (fun g hg => hx g (List.mem_cons_of_mem _ hg)) (j - ks.length) k hj
            refine ⟨v, ?_, hok⟩
            rw [← hv]; congr 1; omega

theorem flat_ok : ∀ {n : Nat} {t : TypeId} {cs : List Value} {x : DataW H × List MemPlace} {fuel : Nat} {ks : List CK}, flatT P n t = some ks → DataW.trod enc P w base sp held fuel t cs = some x → CellsOk w ks cs
  | 0, t, cs, x, fuel, ks, hk, hx => by simp [flatT] at hk
  | n + 1, t, cs, x, fuel, ks, hk, hx => by
    unfold flatT at hk
    cases hu : P.underlying t with
    | none => rw [hu] at hk; simp at hk
    | some u =>
      rw [hu] at hk
      cases u with
      | int k =>
        simp only [Option.some.injEq] at hk; subst hk
        obtain ⟨z, rfl, _, hwf⟩ := DataW.trod_int hu hx
        exact cellsOk_one ⟨z, rfl, wf_range hwf⟩
      | bool =>
        simp only [Option.some.injEq] at hk; subst hk
        cases fuel with
        | zero => simp [DataW.trod] at hx
        | succ m =>
          unfold DataW.trod at hx
          rw [hu] at hx
          split at hx <;> simp_all
          exact cellsOk_one ⟨_, rfl⟩
      | string =>
        simp only [Option.some.injEq] at hk; subst hk
        obtain ⟨s, rfl, _, hs⟩ := DataW.trod_string hu hx
        exact cellsOk_one ⟨s, rfl, hs⟩
      | slice e =>
        simp only at hk
        have other : some [CK.other] = some ks → CellsOk w ks cs := fun h => by
          injection h with h; subst h
          rcases DataW.trod_slice hu hx with ⟨rfl, _⟩ | ⟨a, len, cap, _, _, _, _, rfl, _⟩
          · exact cellsOk_one trivial
          · exact cellsOk_one trivial
        cases hf : flatT P n e with
        | none => rw [hf] at hk; exact other hk
        | some l =>
          rw [hf] at hk
          simp only at hk
          cases hd : dksOf l with
          | none => rw [hd] at hk; exact other hk
          | some dks =>
            rw [hd] at hk
            simp only at hk
            cases hc : (Nat.beq l.length (P.cellsOf e) && Nat.blt 0 (P.cellsOf e)) with
            | false => rw [hc] at hk; exact other hk
            | true =>
              rw [hc] at hk
              simp only [cond_true, Option.some.injEq] at hk
              subst hk
              simp only [Bool.and_eq_true, Nat.beq_eq] at hc
              obtain ⟨hcl, hcp⟩ := hc
              unfold Nat.blt at hcp
              have hcp := Nat.le_of_ble_eq_true hcp
              have hdl := dksOf_len hd
              rcases DataW.trod_slice hu hx with ⟨rfl, _⟩ | ⟨a, len, cap, elems, rest, m, _, rfl, _, _, hle, hcap, hel, hall, _, _⟩
              · exact cellsOk_one ⟨none, 0, 0, rfl, Nat.le_refl _, Nat.zero_le _, fun h => absurd h (Nat.lt_irrefl 0)⟩
              · refine cellsOk_one ⟨some a, len, cap, rfl, hle, hcap, fun h0 => ?_⟩
                have row : ∀ i, i < len → ∀ (j : Nat) (k : CK), l[j]? = some k → ∃ v, w.cell? ((a.add (i * P.cellsOf e)).add j) = some v ∧ k.ok w v := fun i hi j k hj => by
                  have h1 := hall i hi
                  rw [List.getElem?_eq_getElem (by omega), Option.bind_eq_some_iff] at h1
                  obtain ⟨cs, h2, h3⟩ := h1
                  obtain ⟨v, hv, hok⟩ := (flat_ok hf h3).2 j k hj
                  have hjl : j < P.cellsOf e := by rw [← hcl]; exact (List.getElem?_eq_some_iff.1 hj).1
                  exact ⟨v, by rw [(World.cells?_some h2).2.2 j hjl]; exact hv, hok⟩
                have h00 : (a.add (0 * P.cellsOf e)).add 0 = a := by rw [Nat.zero_mul]; simp [Addr.add]
                obtain ⟨v0, hv0, _⟩ := row 0 h0 0 l[0] (List.getElem?_eq_getElem (by omega))
                rw [h00] at hv0
                have hsp := (spot_of_cell hv0).1
                refine ⟨a.block, a.off, by cases a; simp only at hsp; simp [hsp], fun i hi => ?_⟩
                refine dksOf_ok hd fun j k hj => ?_
                obtain ⟨v, hv, hok⟩ := row i hi j k hj
                refine ⟨v, ?_, hok⟩
                rw [Nat.zero_add, hdl, hcl]
                exact add_add hv
      | struct fs =>
        simp only at hk
        cases hf : flatFs P (flatT P n) fs.toList 0 with
        | none => rw [hf] at hk; simp at hk
        | some l =>
          rw [hf] at hk
          simp only at hk
          cases hc : Nat.beq l.length (P.cellsOf t) with
          | false => rw [hc] at hk; simp at hk
          | true =>
            rw [hc] at hk
            simp only [cond_true, Option.some.injEq] at hk
            subst hk
            have hlen := Nat.eq_of_beq_eq_true hc
            obtain ⟨xs, m, _, _, hcl, hxl, hall⟩ := DataW.trod_struct hu hx
            refine ⟨by omega, fun j k hj => ?_⟩
            have := flatFs_ok (m := m) (fun {t cs x fuel ks} => flat_ok (n := n)) fs.toList 0 hf (cs := cs) (by omega) (fun f hfm => by
              obtain ⟨i, hi, e⟩ := List.getElem_of_mem hfm
              have h1 : fs[i]? = some f := by
                rw [← Array.getElem?_toList, List.getElem?_eq_getElem hi, e]
              have h2 := hall i f h1
              have h3 : i < xs.length := by rw [hxl]; simpa using hi
              rw [List.getElem?_eq_getElem h3] at h2
              exact ⟨_, h2⟩) j k hj
            simpa using this
      | _ => simp at hk

/-! ### parameters -/
inductive PK where
  | int (k : IntKind)
  | bool
  | str
  | struct (ks : List CK)
  | rows (sz : Nat) (ks : List CK)
  | dsl (ks : DKs)

def PK.of (P : Program) (t : TypeId) : Option PK :=
  match P.underlying t with
  | some (.int k) => some (.int k)
  | some .bool => some .bool
  | some .string => some .str
  | some (.struct _) => (flatT P 10 t).map .struct
  | some (.slice e) =>
    match flatT P 10 t with
    | some [.dsl ks] => some (.dsl ks)
    | _ =>
      match flatT P 10 e with
      | some ks => cond (Nat.beq ks.length (P.cellsOf e) && Nat.blt 0 (P.cellsOf e)) (some (.rows (P.cellsOf e) ks)) none
      | none => none
  | _ => none

def PK.holds (W : World) : PK → Value → Prop
  | .int k, v => ∃ n, v = .int k n ∧ minK k ≤ n ∧ n ≤ maxK k
  | .bool, v => ∃ b, v = .bool b
  | .str, v => ∃ s : ByteArray, v = .string s ∧ s.size ≤ maxLen
  | .struct ks, v => ∃ cs, v = .agg cs ∧ CellsOk W ks cs.toList
  | .dsl ks, v => (DK.sl ks).okV W v
  | .rows sz ks, v => ∃ A len cap, v = .slice A len cap ∧ len ≤ cap ∧ cap ≤ maxLen ∧ (A = none → cap = 0) ∧ ks.length = sz ∧
      ∀ a, A = some a → (0 < cap → a.spot = none ∧ a.block < W.heap.size) ∧ ∀ i, i < len → ∀ (j : Nat) (k : CK), ks[j]? = some k → ∃ u, W.cell? ⟨a.block, a.off + i * sz + j, none⟩ = some u ∧ k.ok W u

theorem rowsCase {t e : TypeId} {v : Value} {d : DataW H} {ps : List MemPlace} {p : PK} {r : Reach} {b0 : Nat} (hu : P.underlying t = some (.slice e))
    (hp : (match flatT P 10 e with
      | some ks => cond (Nat.beq ks.length (P.cellsOf e) && Nat.blt 0 (P.cellsOf e)) (some (PK.rows (P.cellsOf e) ks)) none
      | none => none) = some p) (hval : Value.okWide P w r b0 t v) (hd : DataW.Trod enc P w 0 (fun _ => true) held t v d ps) : p.holds w v := by
  obtain ⟨fuel, hd'⟩ := hd
  cases hf : flatT P 10 e with
  | none => rw [hf] at hp; simp at hp
  | some ks =>
    rw [hf] at hp
    simp only at hp
    cases hc : (Nat.beq ks.length (P.cellsOf e) && Nat.blt 0 (P.cellsOf e)) with
    | false => rw [hc] at hp; simp at hp
    | true =>
      rw [hc] at hp
      simp only [cond_true, Option.some.injEq] at hp
      subst hp
      simp only [Bool.and_eq_true, Nat.beq_eq] at hc
      have hpos : 0 < P.cellsOf e := by have := hc.2; unfold Nat.blt at this; exact Nat.le_of_ble_eq_true this
      obtain ⟨A, len, cap, rfl⟩ := okWide_slice hu hval
      have hd2 : DataW.trod enc P w 0 (fun _ => true) held fuel t [.slice A len cap] = some (d, ps) := hd'
      rcases DataW.trod_slice hu hd2 with ⟨h1, _⟩ | ⟨a, len', cap', elems, rest, n, _, h1, _, _, hle, hcap, hel, hall, hrest, _⟩
      · injection h1 with h1
        injection h1 with h1 h2 h3
        subst h1; subst h2; subst h3
        exact ⟨none, 0, 0, rfl, Nat.le_refl _, Nat.zero_le _, fun _ => rfl, hc.1, fun a ha => by cases ha⟩
      · injection h1 with h1
        injection h1 with h1 h2 h3
        subst h1; subst h2; subst h3
        obtain ⟨hr1, hr2⟩ := hrest rfl
        refine ⟨some a, len, cap, rfl, hle, hcap, (fun h => by cases h), hc.1, fun a' ha' => ?_⟩
        injection ha' with ha'
        subst ha'
        -- the cells of one element
        have elem : ∀ {i : Nat} {x : DataW H × List MemPlace}, (w.cells? 0 (a.add (i * P.cellsOf e)) (P.cellsOf e)).bind (DataW.trod enc P w 0 (fun _ => true) held n e) = some x →
            ∃ cs, CellsOk w ks cs ∧ ∀ j, j < P.cellsOf e → w.cell? ((a.add (i * P.cellsOf e)).add j) = cs[j]? := by
          intro i x hx
          rw [Option.bind_eq_some_iff] at hx
          obtain ⟨cs, h1, h2⟩ := hx
          exact ⟨cs, flat_ok hf h2, (World.cells?_some h1).2.2⟩
        refine ⟨fun hpc => ?_, fun i hi j k hj => ?_⟩
        · have h0 : ∃ x, (w.cells? 0 (a.add (0 * P.cellsOf e)) (P.cellsOf e)).bind (DataW.trod enc P w 0 (fun _ => true) held n e) = some x := by
            by_cases hl : 0 < len
            · exact ⟨elems[0], by rw [hall 0 hl]; exact List.getElem?_eq_getElem (by omega)⟩
            · have hl0 : len = 0 := by omega
              have hlr : 0 < rest.length := by omega
              refine ⟨rest[0], ?_⟩
              have := hr2 0 (by omega)
              rw [hl0] at this
              simp only [Nat.add_zero] at this
              rw [this]
              exact List.getElem?_eq_getElem hlr
          obtain ⟨x, hx⟩ := h0
          obtain ⟨cs, hok, hcell⟩ := elem hx
          have hlen := hok.1
          have hc0 := hcell 0 hpos
          rw [Nat.zero_mul] at hc0
          have e0 : (a.add 0).add 0 = a := by simp [Addr.add]
          rw [e0, List.getElem?_eq_getElem (by omega)] at hc0
          exact spot_of_cell hc0
        · have hx : ∃ x, (w.cells? 0 (a.add (i * P.cellsOf e)) (P.cellsOf e)).bind (DataW.trod enc P w 0 (fun _ => true) held n e) = some x := ⟨elems[i], by rw [hall i hi]; exact List.getElem?_eq_getElem (by omega)⟩
          obtain ⟨x, hx⟩ := hx
          obtain ⟨cs, hok, hcell⟩ := elem hx
          obtain ⟨u, hu1, hu2⟩ := hok.2 j k hj
          have hjl : j < P.cellsOf e := by rw [← hc.1]; exact (List.getElem?_eq_some_iff.1 hj).1
          exact ⟨u, add_add (by rw [hcell j hjl]; exact hu1), hu2⟩

theorem pk_holds {t : TypeId} {v : Value} {d : DataW H} {ps : List MemPlace} {p : PK} {r : Reach} {b0 : Nat} (hp : PK.of P t = some p) (hval : Value.okWide P w r b0 t v)
    (hd : DataW.Trod enc P w 0 (fun _ => true) held t v d ps) : p.holds w v := by
  unfold PK.of at hp
  cases hu : P.underlying t with
  | none => rw [hu] at hp; simp at hp
  | some u =>
    rw [hu] at hp
    obtain ⟨fuel, hd'⟩ := hd
    cases u with
    | int k =>
      simp only [Option.some.injEq] at hp; subst hp
      obtain ⟨a0, rfl, _, _, w0⟩ := open_int hu hval ⟨fuel, hd'⟩
      exact ⟨a0, rfl, wf_range w0⟩
    | bool =>
      simp only [Option.some.injEq] at hp; subst hp
      obtain ⟨b, rfl, _⟩ := open_bool hu hval ⟨fuel, hd'⟩
      exact ⟨b, rfl⟩
    | string =>
      simp only [Option.some.injEq] at hp; subst hp
      obtain ⟨s, rfl⟩ := okWide_string hu hval
      have hd2 : DataW.trod enc P w 0 (fun _ => true) held fuel t [.string s] = some (d, ps) := hd'
      obtain ⟨s', hs, _, hle⟩ := DataW.trod_string hu hd2
      injection hs with hs
      injection hs with hs
      subst hs
      exact ⟨s, rfl, hle⟩
    | struct fs =>
      simp only at hp
      cases hf : flatT P 10 t with
      | none => rw [hf] at hp; simp at hp
      | some ks =>
        rw [hf] at hp
        simp only [Option.map_some, Option.some.injEq] at hp
        subst hp
        obtain ⟨cs, rfl, _⟩ := okWide_struct hu hval
        exact ⟨cs, rfl, flat_ok hf hd'⟩
    | slice e =>
      simp only at hp
      split at hp
      · rename_i dks hdk
        simp only [Option.some.injEq] at hp
        subst hp
        obtain ⟨A, len, cap, rfl⟩ := okWide_slice hu hval
        obtain ⟨v', hv', hok⟩ := (flat_ok hdk hd').2 0 _ rfl
        have hv' : some (Value.slice A len cap) = some v' := hv'
        injection hv' with hv'
        subst hv'
        exact hok
      · exact rowsCase hu hp hval ⟨fuel, hd'⟩
    | _ => simp at hp

end
end Go.Sx
