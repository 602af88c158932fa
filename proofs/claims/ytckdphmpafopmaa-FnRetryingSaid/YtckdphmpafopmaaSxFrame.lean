/-
  SX, PART 22: a run over a few of the objects, put back among all.
-/
import Derived.Test.YtckdphmpafopmaaSxEnt
namespace Go.Sx
open Go.RowKit
set_option linter.unusedVariables false
set_option linter.unusedSimpArgs false

/-- The blocks of some objects. -/
def ownedBy (ρ : PMap) (h : Heap) (μ : Nat → Nat → Prop) (S : List Nat) (b : Nat) : Prop := ∃ n o p, n ∈ S ∧ hget h n = some o ∧ o.owner = true ∧ ρ n = some p ∧ (p.block = b ∨ (o.isAbs = true ∧ μ n b))

def backMap (ρ ρE : PMap) (τ : Nat → Nat) (news : List Nat) : PMap := ⟨fun n => if n ∈ news then ρE (τ n) else ρ n, ρE.fz⟩
theorem backMap_old {ρ ρE : PMap} {τ : Nat → Nat} {news : List Nat} {n : Nat} (h : n ∉ news) : backMap ρ ρE τ news n = ρ n := if_neg h
theorem backMap_new {ρ ρE : PMap} {τ : Nat → Nat} {news : List Nat} {n : Nat} (h : n ∈ news) : backMap ρ ρE τ news n = ρE (τ n) := if_pos h

section
variable {env envE : Env} {w0 : Anchor} {ρ ρE : PMap} {h hE h' : Heap} {w w' : World} {nx : Nat} {S news : List Nat} {τ : Nat → Nat} {μ : Nat → Nat → Prop}

theorem isAbs_form {o : SObj} (h : o.isAbs = true) : ∃ k st refs, o = .abs k st refs := by cases o <;> first | exact ⟨_, _, _, rfl⟩ | (cases h; done)

theorem HSat.notK (H : HSat env w0 ρ h w) (hA : AbsAll env w0 ρ h w μ) {b : Nat} (hb : ¬ (anchorBut w ρ (ownedBy ρ h μ S)).K b) : ¬ w0.K b := by
  intro hk
  refine hb ⟨Nat.lt_of_lt_of_le (w0.lt b hk) H.below.size, ?_⟩
  rintro ⟨n, o, p, _, hn, ho, hp, rfl | ⟨ha, hb⟩⟩
  · obtain ⟨q, bb, hq, hqK, _⟩ := (H.objs n o hn).place ho
    rw [hp] at hq; injection hq with hq; subst hq
    exact hqK hk
  · obtain ⟨k, st, refs, rfl⟩ := isAbs_form ha
    exact (hA.own n k st refs b hn hb).2 hk

theorem backMap_le (hnx : ∀ n p, ρ n = some p → n < nx) (hnew : ∀ n ∈ news, nx ≤ n) (hfz : ∀ b x, ρ.fz b = some x → ρE.fz b = some x) : ρ.le (backMap ρ ρE τ news) := ⟨fun n p hp => by
  have h1 := hnx n p hp
  rw [backMap_old (fun hm => by have := hnew n hm; omega)]
  exact hp, hfz⟩

theorem HSat.out (H : HSat env w0 ρ h w) (hA : AbsAll env w0 ρ h w μ) (hnx : ∀ n p, ρ n = some p → n < nx) (hnew : ∀ n ∈ news, nx ≤ n) (HE : HSat envE (anchorBut w ρ (ownedBy ρ h μ S)) ρE hE w') (hab : envE.ab = env.ab) (hfz : ∀ b x, ρ.fz b = some x → ρE.fz b = some x)
    (h1 : ∀ n o, hget h' n = some o → n ∉ S → n ∉ news → hget h n = some o)
    (h2 : ∀ n o, hget h' n = some o → n ∈ S ∨ n ∈ news → o.Rel env w0 (backMap ρ ρE τ news) n w')
    (h3 : ∀ n o, hget h' n = some o → n ∈ S ∨ n ∈ news → o.owner = true → ∃ oE, hget hE (τ n) = some oE ∧ oE.owner = true ∧ backMap ρ ρE τ news n = ρE (τ n))
    (h4 : ∀ m n o o', hget h' m = some o → hget h' n = some o' → (m ∈ S ∨ m ∈ news) → (n ∈ S ∨ n ∈ news) → o.owner = true → o'.owner = true → τ m = τ n → m = n)
    (h5 : ∀ n k st refs, hget h' n = some (.abs k st refs) → n ∈ S ∨ n ∈ news → ∃ st0, hget hE (τ n) = some (.abs k st0 (refs.map τ)) ∧ (st0.den envE).I = (st.den env).I ∧ ∀ m ∈ refs, backMap ρ ρE τ news m = ρE (τ m)) :
    HSat env w0 (backMap ρ ρE τ news) h' w' := by
  have hle : ρ.le (backMap ρ ρE τ news) := backMap_le hnx hnew hfz
  have hsz : w.heap.size ≤ w'.heap.size := HE.below.size
  -- an old object's block is one that stays
  have oldK : ∀ n o p, hget h n = some o → n ∉ S → o.owner = true → ρ n = some p → (anchorBut w ρ (ownedBy ρ h μ S)).K p.block := by
    intro n o p hn hS ho hp
    obtain ⟨q, bb, hq, _, hqw⟩ := (H.objs n o hn).place ho
    rw [hp] at hq; injection hq with hq; subst hq
    refine ⟨(Array.getElem?_eq_some_iff.1 hqw).1, ?_⟩
    rintro ⟨m, o', p', hm, hm', ho', hp', he | ⟨ha, hb⟩⟩
    · exact hS (by rw [H.inj n m o o' p p' hn hm' ho ho' hp hp' he.symm]; exact hm)
    · obtain ⟨k, st, refs, rfl⟩ := isAbs_form ha
      exact hA.apart m k st refs _ n o p hm' hb hn ho hp rfl
  have oldM : ∀ n k st refs c, hget h n = some (.abs k st refs) → n ∉ S → μ n c → (anchorBut w ρ (ownedBy ρ h μ S)).K c := by
    intro n k st refs c hn hS hc
    refine ⟨(hA.own n k st refs c hn hc).1, ?_⟩
    rintro ⟨m, o', p', hm, hm', ho', hp', he | ⟨ha, hb⟩⟩
    · exact hA.apart n k st refs c m o' p' hn hc hm' ho' hp' he
    · obtain ⟨k', st', refs', rfl⟩ := isAbs_form ha
      exact hS (by rw [hA.apart2 n k st refs m k' st' refs' c hn hm' hc hb]; exact hm)
  have newK : ∀ n o p, hget h' n = some o → (n ∈ S ∨ n ∈ news) → o.owner = true → backMap ρ ρE τ news n = some p → ∃ oE, hget hE (τ n) = some oE ∧ oE.owner = true ∧ ρE (τ n) = some p ∧ ¬ (anchorBut w ρ (ownedBy ρ h μ S)).K p.block := by
    intro n o p hn hS ho hp
    obtain ⟨oE, ho1, ho2, ho3⟩ := h3 n o hn hS ho
    rw [hp] at ho3
    obtain ⟨q, bb, hq, hqK, _⟩ := (HE.objs (τ n) oE ho1).place ho2
    rw [← ho3] at hq; injection hq with hq; subst hq
    exact ⟨oE, ho1, ho2, ho3.symm, hqK⟩
  have cases' : ∀ n, (n ∈ S ∨ n ∈ news) ∨ (n ∉ S ∧ n ∉ news) := fun n => by
    by_cases a : n ∈ S
    · exact .inl (.inl a)
    · by_cases b : n ∈ news
      · exact .inl (.inr b)
      · exact .inr ⟨a, b⟩
  have oldmap : ∀ n, n ∉ news → backMap ρ ρE τ news n = ρ n := fun n hn => backMap_old hn
  refine ⟨⟨HE.below.os.trans H.below.os, HE.below.tape.trans H.below.tape, HE.below.output.trans H.below.output, Nat.le_trans H.below.size hsz, fun k hk => ?_⟩, fun n o hn => ?_, fun m n o o' p q hm hn ho ho' hp hq he => ?_, ?_, ⟨HE.fz.at_, fun b x n o p hb hn ho hp he => ?_, fun b x hb hk => ?_⟩⟩
  rotate_left 4
  · rcases cases' n with hS | ⟨hS, hN⟩
    · obtain ⟨oE, a1, a2, a3, a4⟩ := newK n o p hn hS ho hp
      exact HE.fz.free b x (τ n) oE p hb a1 a2 a3 he
    · rw [oldmap n hN] at hp
      have hK := oldK n o p (h1 n o hn hS hN) hS ho hp
      rw [he] at hK
      obtain ⟨y, hy⟩ := HE.fz.old b x hb hK
      exact H.fz.free b y n o p hy (h1 n o hn hS hN) ho hp he
  · have hkA : (anchorBut w ρ (ownedBy ρ h μ S)).K b := by
      refine Classical.byContradiction fun hc => H.notK hA hc hk
    obtain ⟨y, hy⟩ := HE.fz.old b x hb hkA
    exact H.fz.old b y hy hk
  rotate_left 3
  · obtain ⟨μE, hAE⟩ := HE.abs
    refine ⟨fun n c => (n ∈ S ∨ n ∈ news) ∧ μE (τ n) c ∨ (n ∉ S ∧ n ∉ news) ∧ μ n c, fun n k st refs hn => ?_, fun n k st refs c hn hc => ?_, fun n k st refs c m o q hn hc hm ho hq he => ?_, fun n k st refs m k' st' refs' c hn hm hc hc' => ?_, fun n k st refs c hn hc => ?_⟩
    · rcases cases' n with hS | ⟨hS, hN⟩
      · have e : (fun c => (n ∈ S ∨ n ∈ news) ∧ μE (τ n) c ∨ (n ∉ S ∧ n ∉ news) ∧ μ n c) = μE (τ n) := funext fun c => propext ⟨fun h => h.elim (·.2) (fun h => absurd hS (fun h' => h'.elim h.1.1 h.1.2)), fun h => .inl ⟨hS, h⟩⟩
        obtain ⟨st0, g1, g2, g3⟩ := h5 n k st refs hn hS
        obtain ⟨oE, ho1, ho2, ho3⟩ := h3 n _ hn hS rfl
        obtain ⟨p, qs, hp, hq, hh⟩ := hAE.holds _ _ _ _ g1
        refine ⟨p, qs, ho3.trans hp, ?_, ?_⟩
        · unfold refPl at hq ⊢
          rw [← hq, List.map_map]
          exact List.map_congr_left fun m hm => by simp only [Function.comp_apply, g3 m hm]
        · intro w2 hw2
          rw [e, ← hab, ← g2]
          exact hh w2 fun c hc => hw2 c (hc.imp id fun h => .inl ⟨hS, h⟩)
      · have e : (fun c => (n ∈ S ∨ n ∈ news) ∧ μE (τ n) c ∨ (n ∉ S ∧ n ∉ news) ∧ μ n c) = μ n := funext fun c => propext ⟨fun h => h.elim (fun h => absurd h.1 (fun h' => h'.elim hS hN)) (·.2), fun h => .inr ⟨⟨hS, hN⟩, h⟩⟩
        have hold := h1 n _ hn hS hN
        obtain ⟨p, qs, hp, hq, hh⟩ := hA.holds _ _ _ _ hold
        refine ⟨p, qs, hle _ _ hp, refPl_mono hle hq, ?_⟩
        intro w2 hw2
        rw [e]
        refine hh w2 fun c hc => (hw2 c (hc.imp id fun h => .inr ⟨⟨hS, hN⟩, h⟩)).trans ?_
        rcases hc with rfl | hc
        · exact HE.below.block _ (oldK n _ p hold hS rfl hp)
        · exact HE.below.block _ (oldM n k st refs c hold hS hc)
    · rcases hc with ⟨hS, hc⟩ | ⟨⟨hS, hN⟩, hc⟩
      · obtain ⟨st0, g1, g2, g3⟩ := h5 n k st refs hn hS
        obtain ⟨a, b⟩ := hAE.own _ _ _ _ c g1 hc
        exact ⟨a, H.notK hA b⟩
      · obtain ⟨a, b⟩ := hA.own n k st refs c (h1 n _ hn hS hN) hc
        exact ⟨Nat.lt_of_lt_of_le a hsz, b⟩
    · rcases hc with ⟨hS, hc⟩ | ⟨⟨hS, hN⟩, hc⟩
      · obtain ⟨st0, g1, g2, g3⟩ := h5 n k st refs hn hS
        rcases cases' m with hSm | ⟨hSm, hNm⟩
        · obtain ⟨oE, a1, a2, a3, a4⟩ := newK m o q hm hSm ho hq
          exact hAE.apart _ _ _ _ c _ oE q g1 hc a1 a2 a3 he
        · rw [oldmap m hNm] at hq
          have hK := oldK m o q (h1 m o hm hSm hNm) hSm ho hq
          rw [he] at hK
          exact (hAE.own _ _ _ _ c g1 hc).2 hK
      · have hold := h1 n _ hn hS hN
        rcases cases' m with hSm | ⟨hSm, hNm⟩
        · obtain ⟨oE, a1, a2, a3, a4⟩ := newK m o q hm hSm ho hq
          exact a4 (by rw [he]; exact oldM n k st refs c hold hS hc)
        · rw [oldmap m hNm] at hq
          exact hA.apart n k st refs c m o q hold hc (h1 m o hm hSm hNm) ho hq he
    · rcases hc with ⟨hS, hc⟩ | ⟨⟨hS, hN⟩, hc⟩
      · obtain ⟨st0, g1, g2, g3⟩ := h5 n k st refs hn hS
        rcases hc' with ⟨hS', hc'⟩ | ⟨⟨hS', hN'⟩, hc'⟩
        · obtain ⟨st0', g1', g2', g3'⟩ := h5 m k' st' refs' hm hS'
          exact h4 n m _ _ hn hm hS hS' rfl rfl (hAE.apart2 _ _ _ _ _ _ _ _ c g1 g1' hc hc')
        · exact absurd (oldM m k' st' refs' c (h1 m _ hm hS' hN') hS' hc') (hAE.own _ _ _ _ c g1 hc).2
      · have hold := h1 n _ hn hS hN
        rcases hc' with ⟨hS', hc'⟩ | ⟨⟨hS', hN'⟩, hc'⟩
        · obtain ⟨st0', g1', g2', g3'⟩ := h5 m k' st' refs' hm hS'
          exact absurd (oldM n k st refs c hold hS hc) (hAE.own _ _ _ _ c g1' hc').2
        · exact hA.apart2 n k st refs m k' st' refs' c hold (h1 m _ hm hS' hN') hc hc'
    · rcases hc with ⟨hS, hc⟩ | ⟨⟨hS, hN⟩, hc⟩
      · obtain ⟨st0, g1, g2, g3⟩ := h5 n k st refs hn hS
        exact hAE.fz _ _ _ _ c g1 hc
      · have hold := h1 n _ hn hS hN
        cases hz : ρE.fz c with
        | none => exact hz
        | some x =>
          obtain ⟨y, hy⟩ := HE.fz.old c x hz (oldM n k st refs c hold hS hc)
          rw [hA.fz n k st refs c hold hc] at hy
          cases hy
  · have hkA : (anchorBut w ρ (ownedBy ρ h μ S)).K k := by
      refine Classical.byContradiction fun hc => H.notK hA hc hk
    exact (HE.below.block k hkA).trans (H.below.block k hk)
  · rcases cases' n with hS | ⟨hS, hN⟩
    · exact h2 n o hn hS
    · have hold := h1 n o hn hS hN
      refine (H.objs n o hold).keep hle (fun p ho hp => ?_) (fun h0 _ => by rw [oldmap n hN]; exact h0)
      exact HE.below.block p.block (oldK n o p hold hS ho hp)
  · rcases cases' m with hSm | ⟨hSm, hNm⟩
    · obtain ⟨oE, a1, a2, a3, a4⟩ := newK m o p hm hSm ho hp
      rcases cases' n with hSn | ⟨hSn, hNn⟩
      · obtain ⟨oE', b1, b2, b3, b4⟩ := newK n o' q hn hSn ho' hq
        exact h4 m n o o' hm hn hSm hSn ho ho' (HE.inj (τ m) (τ n) oE oE' p q a1 b1 a2 b2 a3 b3 he)
      · rw [oldmap n hNn] at hq
        have := oldK n o' q (h1 n o' hn hSn hNn) hSn ho' hq
        rw [← he] at this
        exact absurd this a4
    · rw [oldmap m hNm] at hp
      have hKm := oldK m o p (h1 m o hm hSm hNm) hSm ho hp
      rcases cases' n with hSn | ⟨hSn, hNn⟩
      · obtain ⟨oE', b1, b2, b3, b4⟩ := newK n o' q hn hSn ho' hq
        rw [he] at hKm
        exact absurd hKm b4
      · rw [oldmap n hNn] at hq
        exact H.inj m n o o' p q (h1 m o hm hSm hNm) (h1 n o' hn hSn hNn) ho ho' hp hq he

end
end Go.Sx
