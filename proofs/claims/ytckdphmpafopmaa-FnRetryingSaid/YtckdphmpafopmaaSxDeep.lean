/-
  SX, PART 14b: slices in slices, read out of a world as trees.
-/
import Derived.Test.YtckdphmpafopmaaSxTop
namespace Go.Sx
open Go.RowKit
set_option linter.unusedVariables false
set_option linter.unusedSimpArgs false

def dv : Value → Dv
  | .int _ n => .i n
  | .bool b => .b b
  | .string s => .s s
  | _ => .i 0
mutual
/-- What a value says, by its kind. -/
def DK.rd (w : World) : DK → Value → Dv
  | .sl ks, .slice (some a) len _ => .t ((List.range len).map fun i => ks.rd w (fun j => (w.cell? ⟨a.block, a.off + i * ks.len + j, none⟩).getD .nilIface) 0)
  | .sl _, _ => .t []
  | .int _, v => dv v
  | .bool, v => dv v
  | .str, v => dv v
def DKs.rd (w : World) : DKs → (Nat → Value) → Nat → List Dv
  | .nil, _, _ => []
  | .cons k r, cell, j => k.rd w (cell j) :: r.rd w cell (j + 1)
end
mutual
/-- A value of a kind, as it lies in a world. -/
def DK.okV (w : World) : DK → Value → Prop
  | .int k, v => ∃ n, v = .int k n ∧ minK k ≤ n ∧ n ≤ maxK k
  | .bool, v => ∃ b, v = .bool b
  | .str, v => ∃ s : ByteArray, v = .string s ∧ s.size ≤ maxLen
  | .sl ks, v => ∃ A len cap, v = .slice A len cap ∧ len ≤ cap ∧ cap ≤ maxLen ∧ (0 < len → ∃ b o, A = some ⟨b, o, none⟩ ∧ ∀ i, i < len → ks.okV w (fun j => w.cell? ⟨b, o + i * ks.len + j, none⟩) 0)
def DKs.okV (w : World) : DKs → (Nat → Option Value) → Nat → Prop
  | .nil, _, _ => True
  | .cons k r, cell, j => (∃ v, cell j = some v ∧ k.okV w v) ∧ r.okV w cell (j + 1)
end
mutual
/-- What is so of data of a kind. -/
def DK.fits : DK → Dv → Prop
  | .int k, d => d = .i d.I ∧ minK k ≤ d.I ∧ d.I ≤ maxK k
  | .bool, d => d = .b d.B
  | .str, d => d = .s d.S ∧ d.S.size ≤ maxLen
  | .sl ks, d => d = .t d.T ∧ d.T.length ≤ maxLen ∧ ∀ i, i < d.T.length → ks.fits ((d.T[i]?).getD [])
def DKs.fits : DKs → List Dv → Prop
  | .nil, l => l = []
  | .cons k r, l => ∃ d m, l = d :: m ∧ k.fits d ∧ r.fits m
end
theorem cell_fz {w : World} {b j : Nat} {v : Value} (h : w.cell? ⟨b, j, none⟩ = some v) : fzcell (fun b => w.heap[b]?) b j = some v := by
  unfold World.cell? at h
  show (match w.heap[b]? with | some (.cells c _ _) => c[j]? | _ => none) = some v
  cases hb : w.heap[b]? with
  | none => rw [hb] at h; cases h
  | some x =>
    rw [hb] at h
    cases x with
    | cells c t fr => exact h
    | _ => cases h
mutual
theorem DK.rd_rel {w : World} : ∀ {k : DK} {v : Value}, k.okV w v → k.Rel (fun b => w.heap[b]?) (k.rd w v) v
  | .int k, v, h => by simp only [DK.okV] at h; obtain ⟨n, rfl, _⟩ := h; rfl
  | .bool, v, h => by simp only [DK.okV] at h; obtain ⟨n, rfl⟩ := h; rfl
  | .str, v, h => by simp only [DK.okV] at h; obtain ⟨n, rfl, _⟩ := h; rfl
  | .sl ks, v, h => by
    simp only [DK.okV] at h
    obtain ⟨A, len, cap, rfl, hle, hcp, hr⟩ := h
    simp only [DK.Rel]
    cases A with
    | none =>
      have h0 : len = 0 := by
        cases len with
        | zero => rfl
        | succ n => obtain ⟨b, o, h, _⟩ := hr (Nat.succ_pos n); cases h
      subst h0
      exact ⟨none, cap, rfl, Nat.zero_le _, fun h => by simp [DK.rd, Dv.T] at h⟩
    | some a =>
      have hT : ((DK.sl ks).rd w (.slice (some a) len cap)).T = (List.range len).map fun i => ks.rd w (fun j => (w.cell? ⟨a.block, a.off + i * ks.len + j, none⟩).getD .nilIface) 0 := rfl
      have hlen : ((DK.sl ks).rd w (.slice (some a) len cap)).T.length = len := by rw [hT]; simp
      refine ⟨some a, cap, by rw [hlen], by rw [hlen]; exact hle, fun h0 => ?_⟩
      rw [hlen] at h0
      obtain ⟨b, o, ha, hrow⟩ := hr h0
      injection ha with ha
      subst ha
      refine ⟨b, o, rfl, fun i hi => ?_⟩
      rw [hlen] at hi
      refine DKs.rd_rel (hrow i hi) (fun j v hv => cell_fz hv) (cellD := fun j => (w.cell? ⟨b, o + i * ks.len + j, none⟩).getD .nilIface) (fun j v hv => by rw [hv]; rfl) (fun m => ?_)
      show Dv.at _ i (0 + m) = _
      unfold Dv.at
      rw [hT, List.getElem?_map, List.getElem?_range hi, Nat.zero_add]
      rfl
theorem DKs.rd_rel {w : World} : ∀ {ks : DKs} {cell cell' : Nat → Option Value} {cellD : Nat → Value} {row : Nat → Dv} {j : Nat}, ks.okV w cell j → (∀ j v, cell j = some v → cell' j = some v) → (∀ j v, cell j = some v → cellD j = v) →
    (∀ m, row (j + m) = ((ks.rd w cellD j)[m]?).getD (.i 0)) → ks.Rel (fun b => w.heap[b]?) row cell' j
  | .nil, _, _, _, _, _, _, _, _, _ => trivial
  | .cons k r, cell, cell', cellD, row, j, h, h1, h2, h3 => by
    simp only [DKs.okV] at h
    obtain ⟨⟨v, hv, hk⟩, hr⟩ := h
    simp only [DKs.Rel]
    refine ⟨⟨v, h1 j v hv, ?_⟩, DKs.rd_rel hr h1 h2 fun m => ?_⟩
    · have := h3 0
      rw [Nat.add_zero] at this
      rw [this]
      show k.Rel _ (k.rd w (cellD j)) v
      rw [h2 j v hv]
      exact DK.rd_rel hk
    · rw [show j + 1 + m = j + (m + 1) by omega, h3 (m + 1)]
      rfl
end
mutual
theorem DK.rd_fits {w : World} : ∀ {k : DK} {v : Value}, k.okV w v → k.fits (k.rd w v)
  | .int k, v, h => by simp only [DK.okV] at h; obtain ⟨n, rfl, h1, h2⟩ := h; exact ⟨rfl, h1, h2⟩
  | .bool, v, h => by simp only [DK.okV] at h; obtain ⟨n, rfl⟩ := h; exact (rfl : _ = _)
  | .str, v, h => by simp only [DK.okV] at h; obtain ⟨n, rfl, h1⟩ := h; exact ⟨rfl, h1⟩
  | .sl ks, v, h => by
    simp only [DK.okV] at h
    obtain ⟨A, len, cap, rfl, hle, hcp, hr⟩ := h
    simp only [DK.fits]
    cases A with
    | none => exact ⟨rfl, Nat.zero_le _, fun i hi => by simp [DK.rd, Dv.T] at hi⟩
    | some a =>
      have hT : ((DK.sl ks).rd w (.slice (some a) len cap)).T = (List.range len).map fun i => ks.rd w (fun j => (w.cell? ⟨a.block, a.off + i * ks.len + j, none⟩).getD .nilIface) 0 := rfl
      have hlen : ((DK.sl ks).rd w (.slice (some a) len cap)).T.length = len := by rw [hT]; simp
      refine ⟨rfl, by rw [hlen]; omega, fun i hi => ?_⟩
      rw [hlen] at hi
      obtain ⟨b, o, ha, hrow⟩ := hr (by omega)
      injection ha with ha
      subst ha
      rw [hT, List.getElem?_map, List.getElem?_range hi]
      exact DKs.rd_fits (hrow i hi) (fun j v hv => by rw [hv]; rfl)
theorem DKs.rd_fits {w : World} : ∀ {ks : DKs} {cell : Nat → Option Value} {cellD : Nat → Value} {j : Nat}, ks.okV w cell j → (∀ j v, cell j = some v → cellD j = v) → ks.fits (ks.rd w cellD j)
  | .nil, _, _, _, _, _ => rfl
  | .cons k r, cell, cellD, j, h, h2 => by
    simp only [DKs.okV] at h
    obtain ⟨⟨v, hv, hk⟩, hr⟩ := h
    simp only [DKs.fits, DKs.rd]
    exact ⟨_, _, rfl, by rw [h2 j v hv]; exact DK.rd_fits hk, DKs.rd_fits hr h2⟩
end
/-- Rows of data all have one length. -/
theorem DKs.fits_length : ∀ {ks : DKs} {l : List Dv}, ks.fits l → l.length = ks.len
  | .nil, l, h => by simp only [DKs.fits] at h; subst h; rfl
  | .cons k r, l, h => by
    simp only [DKs.fits] at h
    obtain ⟨d, m, rfl, _, h2⟩ := h
    simp [DKs.len, DKs.fits_length h2]
theorem DKs.fits_get : ∀ {ks : DKs} {l : List Dv} {j : Nat} {k : DK}, ks.fits l → ks.get j = some k → ∃ d, l[j]? = some d ∧ k.fits d
  | .nil, l, j, k, h, hk => by simp [DKs.get] at hk
  | .cons k' r, l, 0, k, h, hk => by
    simp only [DKs.fits] at h
    obtain ⟨d, m, rfl, h1, h2⟩ := h
    simp only [DKs.get, Option.some.injEq] at hk; subst hk
    exact ⟨d, rfl, h1⟩
  | .cons k' r, l, j + 1, k, h, hk => by
    simp only [DKs.fits] at h
    obtain ⟨d, m, rfl, h1, h2⟩ := h
    simp only [DKs.get] at hk
    obtain ⟨e, h3, h4⟩ := DKs.fits_get h2 hk
    exact ⟨e, by simpa using h3, h4⟩
end Go.Sx
