/-
  SX, PART 16: a law's arguments as symbolic values: an environment for them.
-/
import Derived.Test.YtckdphmpafopmaaSxOpen
namespace Go.Sx
open Go.RowKit
set_option linter.unusedVariables false
set_option linter.unusedSimpArgs false

def CK.col : CK → Nat → Col
  | .int k, c => .int k c
  | .bool, c => .bool c
  | .str, c => .str c
  | .dsl ks, c => .dsl ks c
  | .other, c => .val c
def CK.sv : CK → Nat → SV
  | .int k, c => .int k (.v c)
  | .bool, c => .bool (.v c)
  | .str, c => .str (.v c)
  | .dsl ks, c => .dsl ks (.v c)
  | .other, c => .val c (.il 0)
def CK.facts : CK → Nat → Facts
  | .int k, c => [(.o2 .le (.il (minK k)) (.v c), true), (.o2 .le (.v c) (.il (maxK k)), true)]
  | _, _ => []

def colsFrom : List CK → Nat → List Col
  | [], _ => []
  | k :: r, c => k.col c :: colsFrom r (c + 1)
def svsFrom : List CK → Nat → List SV
  | [], _ => []
  | k :: r, c => k.sv c :: svsFrom r (c + 1)
def factsFrom : List CK → Nat → Facts
  | [], _ => []
  | k :: r, c => k.facts c ++ factsFrom r (c + 1)

def symArg : PK → Nat → SV
  | .int k, i => .int k (.v (32 * i))
  | .bool, i => .bool (.v (32 * i))
  | .str, i => .str (.v (32 * i))
  | .struct ks, i => .agg (svsFrom ks (32 * i))
  | .rows sz ks, i => .sl i sz (.il 0) (.v (32 * i))
  | .dsl ks, i => .dsl ks (.v (32 * i))
def symArgs : List PK → Nat → List SV
  | [], _ => []
  | p :: r, i => symArg p i :: symArgs r (i + 1)
def symHeap : List PK → Nat → CHeap
  | [], _ => []
  | .rows sz ks :: r, i => (i, .inp sz (.v (32 * i)) (colsFrom ks (32 * i))) :: symHeap r (i + 1)
  | _ :: r, i => symHeap r (i + 1)
def symFact : PK → Nat → Facts
  | .int k, i => CK.facts (.int k) (32 * i)
  | .struct ks, i => factsFrom ks (32 * i)
  | .rows _ _, i => [(.o2 .le (.il 0) (.v (32 * i)), true), (.o2 .le (.v (32 * i)) (.il 9223372036854775807), true)]
  | .dsl _, i => [(.o2 .le (.o1 .tlen (.v (32 * i))) (.il 9223372036854775807), true)]
  | _, _ => []
def symFacts : List PK → Nat → Facts
  | [], _ => []
  | p :: r, i => symFact p i ++ symFacts r (i + 1)

def PK.small : PK → Bool
  | .struct ks => Nat.ble ks.length 32
  | .rows _ ks => Nat.ble ks.length 32
  | _ => true

/-- What a cell says. -/
def CK.rd (W : World) : CK → Value → Dv
  | .dsl ks, v => (DK.sl ks).rd W v
  | _, v => dv v
def ckAt (KS : List PK) (c : Nat) : CK :=
  match KS[c / 32]? with
  | some (.struct l) => (l[c % 32]?).getD .other
  | some (.rows _ l) => (l[c % 32]?).getD .other
  | _ => .other
def cellOf (W : World) (a : Addr) (k : Nat) : Value := (W.cell? ⟨a.block, a.off + k, none⟩).getD .nilIface

def dvK (W : World) (ks : List PK) (n : Nat) (u : Value) : Dv :=
  match ks[n / 32]? with
  | some (.dsl k) => (DK.sl k).rd W u
  | _ =>
    match u with
    | .agg cs => (ckAt ks n).rd W ((cs[n % 32]?).getD .nilIface)
    | .slice _ l _ => .i l
    | u => dv u
def envV (W : World) (ks : List PK) (vs : List Value) (x : Nat → Dv) (n : Nat) : Dv :=
  match vs[n / 32]? with
  | some u => dvK W ks n u
  | none => x n
def envF (W : World) (ks : List PK) (vs : List Value) (x : Nat → Int → Dv) (c : Nat) (i : Int) : Dv :=
  match vs[c / 32]?, ks[c / 32]? with
  | some (.slice (some a) _ _), some (.rows sz _) => (ckAt ks c).rd W (cellOf W a (i.toNat * sz + c % 32))
  | some _, _ => .i 0
  | none, _ => x c i
def envU (W : World) (ks : List PK) (vs : List Value) (x : Nat → Int → Value) (c : Nat) (i : Int) : Value :=
  match vs[c / 32]?, ks[c / 32]? with
  | some (.agg cs), _ => (cs[c % 32]?).getD .nilIface
  | some (.slice (some a) _ _), some (.rows sz _) => cellOf W a (i.toNat * sz + c % 32)
  | some _, _ => .nilIface
  | none, _ => x c i
def envOf (W : World) (ks : List PK) (vs : List Value) (x : Env) : Env := ⟨envV W ks vs x.v, envF W ks vs x.fn, envU W ks vs x.val, x.mp, x.uf, x.ab⟩

def pmapPl (vs : List Value) (n : Nat) : Option Pl :=
  match vs[n]? with
  | some (.slice (some a) _ cap) => some ⟨a.block, a.off, cap, false⟩
  | some (.slice none _ cap) => some ⟨0, 0, cap, true⟩
  | _ => none
def pmapOf (W : World) (vs : List Value) : PMap := ⟨pmapPl vs, fun b => W.heap[b]?⟩

section
variable {W : World} {KS : List PK} {VS : List Value} {x : Env} {ρ : PMap}

theorem div32 (i j : Nat) (h : j < 32) : (32 * i + j) / 32 = i ∧ (32 * i + j) % 32 = j := by omega
theorem div32' (i : Nat) : (32 * i) / 32 = i ∧ (32 * i) % 32 = 0 := by omega

theorem ck_sv {k : CK} {c : Nat} {u : Value} {env : Env} (hz : ρ.fz = fun b => W.heap[b]?) (hk : k.ok W u) (h1 : env.v c = k.rd W u) (h2 : env.val c 0 = u) : (k.sv c).Rel env ρ u := by
  cases k with
  | int k => obtain ⟨n, rfl, _⟩ := hk; show _ = _; simp only [E.den, h1]; rfl
  | bool => obtain ⟨n, rfl⟩ := hk; show _ = _; simp only [E.den, h1]; rfl
  | str => obtain ⟨n, rfl, _⟩ := hk; show _ = _; simp only [E.den, h1]; rfl
  | dsl ks => simp only [CK.sv, SV.Rel, E.den, h1, hz]; exact DK.rd_rel hk
  | other => exact h2.symm

theorem ck_col {k : CK} {c : Nat} {u : Value} {env : Env} {i : Nat} (hz : ρ.fz = fun b => W.heap[b]?) (hk : k.ok W u) (h1 : env.fn c (i : Int) = k.rd W u) (h2 : env.val c (i : Int) = u) : ((k.col c).at (.il i)).Rel env ρ u := by
  cases k with
  | int k => obtain ⟨n, rfl, _⟩ := hk; show _ = Value.int k (env.fn c (i : Int)).I; rw [h1]; rfl
  | bool => obtain ⟨n, rfl⟩ := hk; show _ = Value.bool (env.fn c (i : Int)).B; rw [h1]; rfl
  | str => obtain ⟨n, rfl, _⟩ := hk; show _ = Value.string (env.fn c (i : Int)).S; rw [h1]; rfl
  | dsl ks => simp only [CK.col, Col.at, SV.Rel, hz]; show DK.Rel _ _ (env.fn c (i : Int)) u; rw [h1]; exact DK.rd_rel hk
  | other => exact h2.symm

theorem svs_ok {env : Env} (hz : ρ.fz = fun b => W.heap[b]?) : ∀ {ks : List CK} {cs : List Value} {c : Nat}, cs.length = ks.length → (∀ (j : Nat) (k : CK), ks[j]? = some k → ∃ v, cs[j]? = some v ∧ k.ok W v ∧ env.v (c + j) = k.rd W v ∧ env.val (c + j) 0 = v) →
    SV.Rels env ρ (svsFrom ks c) cs
  | [], cs, c, hl, _ => by have : cs = [] := List.length_eq_zero_iff.1 (by simpa using hl); subst this; rfl
  | k :: r, [], c, hl, _ => by simp at hl
  | k :: r, u :: cs, c, hl, h => by
    obtain ⟨v, hv, hok, h1, h2⟩ := h 0 k rfl
    simp at hv; subst hv
    refine ⟨u, cs, rfl, ck_sv hz hok h1 h2, svs_ok hz (by simpa using hl) (fun j k' hj => ?_)⟩
    obtain ⟨v, hv, hok, h1, h2⟩ := h (j + 1) k' (by simpa using hj)
    refine ⟨v, by simpa using hv, hok, ?_, ?_⟩
    · rw [← h1]; congr 1; omega
    · rw [← h2]; congr 1; omega

theorem colsFrom_get : ∀ {ks : List CK} {c j : Nat} {col : Col}, (colsFrom ks c)[j]? = some col → ∃ k, ks[j]? = some k ∧ col = k.col (c + j)
  | [], c, j, col, h => by simp [colsFrom] at h
  | k :: r, c, 0, col, h => by simp [colsFrom] at h; exact ⟨k, rfl, h.symm⟩
  | k :: r, c, j + 1, col, h => by
    simp only [colsFrom, List.getElem?_cons_succ] at h
    obtain ⟨k', h1, h2⟩ := colsFrom_get h
    exact ⟨k', by simpa using h1, by rw [h2]; congr 1; omega⟩

theorem arg_ok {i : Nat} {p : PK} {v : Value} (hk : KS[i]? = some p) (hv : VS[i]? = some v) (hh : p.holds W v) (hs : p.small = true) :
    (symArg p i).Rel (envOf W KS VS x) (pmapOf W VS) v := by
  have d := div32' i
  cases p with
  | int k =>
    obtain ⟨n, rfl, _⟩ := hh
    show _ = _
    simp only [E.den, envOf, envV, dvK, d.1, hv, hk]; rfl
  | bool =>
    obtain ⟨n, rfl⟩ := hh
    show _ = _
    simp only [E.den, envOf, envV, dvK, d.1, hv, hk]; rfl
  | str =>
    obtain ⟨n, rfl, _⟩ := hh
    show _ = _
    simp only [E.den, envOf, envV, dvK, d.1, hv, hk]; rfl
  | struct ks =>
    obtain ⟨cs, rfl, hok⟩ := hh
    have hsm : ks.length ≤ 32 := Nat.le_of_ble_eq_true hs
    refine ⟨cs.toList, rfl, svs_ok rfl hok.1 (fun j k hj => ?_)⟩
    obtain ⟨u, hu, huk⟩ := hok.2 j k hj
    have hjl : j < ks.length := (List.getElem?_eq_some_iff.1 hj).1
    have dd := div32 i j (by omega)
    have hu' : cs[j]? = some u := by simpa using hu
    refine ⟨u, hu, huk, ?_, ?_⟩
    · have hck : ckAt KS (32 * i + j) = k := by unfold ckAt; rw [dd.1, dd.2, hk]; simp only [hj, Option.getD_some]
      simp only [envOf, envV, dvK, dd.1, dd.2, hv, hk, hu', hck, Option.getD_some]
    · simp only [envOf, envU, dd.1, dd.2, hv, hu', Option.getD_some]
  | rows sz ks =>
    obtain ⟨A, len, cap, rfl, hle, hcap, hA, hks, hall⟩ := hh
    have hlen : ((E.v (32 * i)).den (envOf W KS VS x)).I = (len : Int) := by simp only [E.den, envOf, envV, dvK, d.1, hv, hk]; rfl
    have hlen2 : ((E.v (32 * i)).den (envOf W KS VS x)).I.toNat = len := by rw [hlen]; simp
    have h0 : ((E.il 0).den (envOf W KS VS x)).I = 0 := rfl
    simp only [symArg, SV.Rel]
    cases A with
    | none =>
      have := hA rfl
      subst this
      refine ⟨⟨0, 0, 0, true⟩, none, by simp [pmapOf, pmapPl, hv], ?_, by simp, ?_, ?_, ?_⟩
      · rw [hlen2, h0]; rfl
      · rw [h0]; intro h; simp at h
      · rw [hlen2, h0]; simp; omega
      · rw [h0]; decide
    | some a =>
      refine ⟨⟨a.block, a.off, cap, false⟩, some a, by simp [pmapOf, pmapPl, hv], ?_, by simp, ?_, ?_, ?_⟩
      · rw [hlen2, h0]; rfl
      · rw [h0]
        intro h
        obtain ⟨h1, _⟩ := (hall a rfl).1 (by simpa using h)
        cases a
        simp only at h1
        simp [h1]
      · rw [hlen2, h0]; simp; exact hle
      · rw [h0]; decide
  | dsl ks =>
    simp only [symArg, SV.Rel, E.den, envOf, envV, dvK, d.1, hv, hk]
    exact DK.rd_rel hh

theorem args_rels {KS : List PK} {VS : List Value} (hsm : ∀ p ∈ KS, p.small = true) (hall : ∀ (i : Nat) (p : PK) (v : Value), KS[i]? = some p → VS[i]? = some v → p.holds W v) : ∀ (r : List PK) (us : List Value) (i : Nat),
    (∀ k, KS[i + k]? = r[k]?) → (∀ k, VS[i + k]? = us[k]?) → r.length = us.length → SV.Rels (envOf W KS VS x) (pmapOf W VS) (symArgs r i) us
  | [], [], i, _, _, _ => rfl
  | [], _ :: _, i, _, _, h => by simp at h
  | _ :: _, [], i, _, _, h => by simp at h
  | p :: r, v :: us, i, h1, h2, h3 => by
    have e1 : KS[i]? = some p := by have := h1 0; simpa using this
    have e2 : VS[i]? = some v := by have := h2 0; simpa using this
    refine ⟨v, us, rfl, arg_ok e1 e2 (hall i p v e1 e2) (hsm p (List.mem_of_getElem? e1)), args_rels hsm hall r us (i + 1) (fun k => ?_) (fun k => ?_) (by simpa using h3)⟩
    · have := h1 (k + 1); rw [← Nat.add_assoc] at this; simpa [Nat.add_right_comm] using this
    · have := h2 (k + 1); rw [← Nat.add_assoc] at this; simpa [Nat.add_right_comm] using this

theorem symHeap_get : ∀ (r : List PK) (i n : Nat) (o : SObj), cget (symHeap r i) n = some o → ∃ j sz ks, n = i + j ∧ r[j]? = some (.rows sz ks) ∧ o = .inp sz (.v (32 * n)) (colsFrom ks (32 * n))
  | [], i, n, o, h => by simp [symHeap, cget] at h
  | p :: r, i, n, o, h => by
    have next : cget (symHeap r (i + 1)) n = some o → ∃ j sz ks, n = i + j ∧ (p :: r)[j]? = some (.rows sz ks) ∧ o = .inp sz (.v (32 * n)) (colsFrom ks (32 * n)) := fun h => by
      obtain ⟨j, sz, ks, e, h1, h2⟩ := symHeap_get r (i + 1) n o h
      exact ⟨j + 1, sz, ks, by omega, by simpa using h1, h2⟩
    cases p with
    | rows sz ks =>
      simp only [symHeap, cget] at h
      cases hb : Nat.beq i n with
      | true =>
        rw [hb] at h
        obtain rfl := Nat.eq_of_beq_eq_true hb
        simp only [cond_true, Option.some.injEq] at h
        exact ⟨0, sz, ks, rfl, rfl, h.symm⟩
      | false => rw [hb] at h; exact next h
    | _ => exact next h

theorem heap_ok (hl : KS.length = VS.length) (hsm : ∀ p ∈ KS, p.small = true) (hall : ∀ (i : Nat) (p : PK) (v : Value), KS[i]? = some p → VS[i]? = some v → p.holds W v) :
    HSat (envOf W KS VS x) (anchor W) (pmapOf W VS) (cden (symHeap KS 0)) W := by
  refine ⟨Kept.refl _, fun n o hn => ?_, fun m n o o' p q hm hn ho => ?_, AbsAll.none fun n o hn => by obtain ⟨j, sz, ks, e, hk, rfl⟩ := symHeap_get KS 0 n o hn; rfl, ⟨fun b x hb => hb, fun b x n o p hb hn ho => by obtain ⟨j, sz, ks, e, hk, rfl⟩ := symHeap_get KS 0 n o hn; exact absurd ho (by simp [SObj.owner]), fun b x hb hk => trivial⟩⟩
  · obtain ⟨j, sz, ks, e, hk, rfl⟩ := symHeap_get KS 0 n o hn
    have : j = n := by omega
    subst this
    have hj : j < VS.length := by rw [← hl]; exact (List.getElem?_eq_some_iff.1 hk).1
    have hv : VS[j]? = some VS[j] := List.getElem?_eq_getElem hj
    have hh := hall j _ _ hk hv
    have hs : ks.length ≤ 32 := Nat.le_of_ble_eq_true (hsm _ (List.mem_of_getElem? hk))
    generalize VS[j] = v at hv hh
    obtain ⟨A, len, cap, rfl, hle, hcap, hA, hks, hcells⟩ := hh
    have d := div32' j
    have hlen2 : ((E.v (32 * j)).den (envOf W KS VS x)).I.toNat = len := by simp only [E.den, envOf, envV, dvK, d.1, hv, hk]; show ((len : Int)).toNat = len; simp
    simp only [SObj.Rel, hlen2]
    cases A with
    | none =>
      have := hA rfl
      subst this
      refine ⟨⟨0, 0, 0, true⟩, by simp [pmapOf, pmapPl, hv], by simpa using hle, fun _ => rfl, fun h => by simp at h, fun i hi => by omega⟩
    | some a =>
      refine ⟨⟨a.block, a.off, cap, false⟩, by simp [pmapOf, pmapPl, hv], hle, fun h => by simp at h, fun h => ((hcells a rfl).1 h).2, fun i hi jj col hcol => ?_⟩
      obtain ⟨k, hkk, rfl⟩ := colsFrom_get hcol
      obtain ⟨u, hu, huk⟩ := (hcells a rfl).2 i hi jj k hkk
      have hjl : jj < ks.length := (List.getElem?_eq_some_iff.1 hkk).1
      have dd := div32 j jj (by omega)
      have hcell : cellOf W a (i * sz + jj) = u := by
        unfold cellOf
        rw [show a.off + (i * sz + jj) = a.off + i * sz + jj by omega, hu]
        rfl
      refine ⟨u, hu, ck_col rfl huk ?_ ?_⟩
      · have hck : ckAt KS (32 * j + jj) = k := by unfold ckAt; rw [dd.1, dd.2, hk]; simp only [hkk, Option.getD_some]
        simp only [envOf, envF, dd.1, dd.2, hv, hk, hck, Int.toNat_natCast, hcell]
      · simp only [envOf, envU, dd.1, dd.2, hv, hk, Int.toNat_natCast, hcell]
  · obtain ⟨j, sz, ks, e, hk, rfl⟩ := symHeap_get KS 0 m o hm
    cases ho

theorem pmapOf_lt {n : Nat} {p : Pl} (h : pmapOf W VS n = some p) : n < VS.length := by
  have h : pmapPl VS n = some p := h
  unfold pmapPl at h
  cases hv : VS[n]? with
  | none => rw [hv] at h; simp at h
  | some v => exact (List.getElem?_eq_some_iff.1 hv).1

end
end Go.Sx
