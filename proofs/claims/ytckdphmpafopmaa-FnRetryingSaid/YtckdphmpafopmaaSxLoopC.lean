/-
  SX, PART 23: a loop over symbolic states: heads of some shapes, an environment a round.
-/
import Derived.Test.YtckdphmpafopmaaSxFrame
namespace Go.Sx
open Go.RowKit
set_option linter.unusedVariables false
set_option linter.unusedSimpArgs false

/-- A shape of the loop's head. -/
structure Head where
  ov : List (Nat × SV)
  h : CHeap
  m : Nat
  fs : Facts

def sig (l : List (Nat × Nat)) (z : Nat) : Nat → Nat := fun n =>
  match l with
  | [] => z
  | (a, b) :: r => cond (Nat.beq a n) b (sig r z n)

section
variable (e e' : Env) (σ : Nat → Nat)
def entOv (sl : List SV) : List (Nat × SV) → Prop
  | [] => True
  | (j, y) :: r => (match nth sl j with | some x => SV.ent e e' σ x y | none => False) ∧ entOv sl r
def entO (o o' : SObj) : Prop :=
  match o, o' with
  | .inp sz len cols, .inp sz' len' cols' => sz = sz' ∧ (len.den e).I = (len'.den e').I ∧ cols = cols' ∧ ∀ col ∈ cols, ∀ i : Nat, SV.ent e e' σ (col.at (.il i)) (col.at (.il i))
  | o, o' => o.owner = true ∧ SObj.ent e e' σ o o'
def entHp (hL : CHeap) : CHeap → Prop
  | [] => True
  | (n, o') :: r => (match cget hL (σ n) with | some o => entO e e' σ o o' | none => False) ∧ entHp hL r

theorem entOv_get {sl : List SV} : ∀ {ov : List (Nat × SV)} {j : Nat} {y : SV}, entOv e e' σ sl ov → ovGet ov j = some y → ∃ x, sl[j]? = some x ∧ SV.ent e e' σ x y
  | [], j, y, _, h => by cases h
  | (i, z) :: r, j, y, he, h => by
    unfold entOv at he
    unfold ovGet at h
    cases hb : Nat.beq i j with
    | true =>
      rw [hb] at h
      obtain rfl := Nat.eq_of_beq_eq_true hb
      simp only [cond_true, Option.some.injEq] at h
      subst h
      cases hn : nth sl i with
      | none => rw [hn] at he; exact he.1.elim
      | some x => rw [hn] at he; exact ⟨x, by rw [← nth_eq]; exact hn, he.1⟩
    | false => rw [hb] at h; exact entOv_get he.2 h
theorem entHp_get {hL : CHeap} : ∀ {hp : CHeap} {n : Nat} {o' : SObj}, entHp e e' σ hL hp → cget hp n = some o' → ∃ o, cget hL (σ n) = some o ∧ entO e e' σ o o'
  | [], n, o', _, h => by cases h
  | (k, z) :: r, n, o', he, h => by
    unfold entHp at he
    unfold cget at h
    cases hb : Nat.beq k n with
    | true =>
      rw [hb] at h
      obtain rfl := Nat.eq_of_beq_eq_true hb
      simp only [cond_true, Option.some.injEq] at h
      subst h
      cases hn : cget hL (σ k) with
      | none => rw [hn] at he; exact he.1.elim
      | some x => rw [hn] at he; exact ⟨x, rfl, he.1⟩
    | false => rw [hb] at h; exact entHp_get he.2 h
end

theorem sig_z {l : List (Nat × Nat)} {z n : Nat} (h : n ∉ l.map (·.1)) : sig l z n = z := by
  induction l with
  | nil => rfl
  | cons x r ih =>
    obtain ⟨a, b⟩ := x
    simp only [List.map_cons, List.mem_cons, not_or] at h
    unfold sig
    have : Nat.beq a n = false := by rw [Bool.eq_false_iff]; intro he; exact h.1 (Nat.eq_of_beq_eq_true he).symm
    rw [this]
    exact ih h.2
theorem sig_mem {l : List (Nat × Nat)} {z n : Nat} (h : sig l z n ≠ z) : (n, sig l z n) ∈ l := by
  induction l with
  | nil => exact absurd rfl h
  | cons x r ih =>
    obtain ⟨a, b⟩ := x
    unfold sig at h ⊢
    cases hb : Nat.beq a n with
    | true =>
      obtain rfl := Nat.eq_of_beq_eq_true hb
      simp
    | false =>
      rw [hb] at h
      exact List.mem_cons_of_mem _ (ih h)

/-- The names of a heap. -/
def namesOf (h : CHeap) : List Nat := h.map (·.1)
def entInj (l : List (Nat × Nat)) : Bool := allDiff (l.map (·.2))
theorem inj_of_allDiff : ∀ {l : List (Nat × Nat)} {a b k : Nat}, allDiff (l.map (·.2)) = true → (a, k) ∈ l → (b, k) ∈ l → a = b
  | [], a, b, k, _, h, _ => by cases h
  | (x, y) :: r, a, b, k, hd, ha, hb => by
    simp only [List.map_cons, allDiff, Bool.and_eq_true, Bool.not_eq_true'] at hd
    have hno : ∀ c, (c, y) ∉ r := fun c hc => by
      have := inL_iff.2 (List.mem_map.2 ⟨(c, y), hc, rfl⟩ : y ∈ r.map (·.2))
      rw [this] at hd; exact absurd hd.1 (by simp)
    rcases List.mem_cons.1 ha with e | e
    · injection e with e1 e2; subst e1; subst e2
      rcases List.mem_cons.1 hb with e | e
      · injection e with e1 e2; exact e1.symm
      · exact absurd e (hno b)
    · rcases List.mem_cons.1 hb with e' | e'
      · injection e' with e1 e2; subst e1; subst e2; exact absurd e (hno a)
      · exact inj_of_allDiff hd.2 e e'

section
variable {e e' : Env} {A : Anchor} {ρ : PMap} {w : World}

theorem entO_ok {σ : Nat → Nat} {n m : Nat} {o o' : SObj} (h : entO e e' σ o o') (hn : n = σ m) (hg : o' = .gone ∨ o'.owner = true ∨ ∃ a b c, o' = .inp a b c) (hr : o.Rel e A ρ n w) : o'.Rel e' A (ρ.re σ) m w := by
  rcases hg with rfl | ho | ⟨a, b, c, rfl⟩
  · trivial
  · have h2 : SObj.ent e e' σ o o' := by
      unfold entO at h
      split at h
      · cases ho
      · exact h.2
    exact SObj.ent_ok e e' σ (fun _ h => h) h2 ho hn hr
  · cases o with
    | inp sz len cols =>
      simp only [entO] at h
      obtain ⟨rfl, hl, rfl, hcols⟩ := h
      subst hn
      obtain ⟨p, h1, h2, h3, h4, h5⟩ := hr
      refine ⟨p, h1, by rw [← hl]; exact h2, h3, h4, fun i hi j col hj => ?_⟩
      rw [← hl] at hi
      obtain ⟨v, hv, hrv⟩ := h5 i hi j col hj
      refine ⟨v, hv, ?_⟩
      exact SV.ent_ok e e' σ (hcols col (List.mem_of_getElem? hj) i) hrv
    | _ => simp only [entO, SObj.ent] at h; exact h.2.elim

/-- Is an object one that a head may have? -/
def headObj : SObj → Bool
  | .cells .. => true
  | .row .. => true
  | .inp .. => true
  | .map .. => true
  | .abs .. => true
  | .chan .. => true
  | .gone => true
  | _ => false

/-- From the end of a round to the head of the next. -/
theorem sat_turn {frL : Fr} {hL : CHeap} {nxL : Nat} {a : Act} (hs : Sat e A ρ frL (cden hL) nxL a w) {H : Head} {N : Nat} {l : List (Nat × Nat)} (hov : entOv e e' (sig l nxL) frL.sl H.ov) (hhp : entHp e e' (sig l nxL) hL H.h)
    (hobj : H.h.all (fun x => headObj x.2) = true) (hinj : allDiff (l.map (·.2)) = true) (hlt : l.all (fun x => Nat.blt x.1 H.m && Nat.blt x.2 nxL) = true) (hdf : frL.df = []) (hN : frL.sl.length = N) :
    Sat e' A (ρ.re (sig l nxL)) ⟨mkSl H.ov (fun j => (a.tmps.toList[j]?).getD undef) 0 N, []⟩ (cden H.h) H.m a w := by
  have hzz : ρ nxL = none := by
    cases h : ρ nxL with
    | none => rfl
    | some p => have := hs.nx _ _ h; omega
  have hal : a.tmps.toList.length = N := by rw [hs.sl.length, hN]
  have nz : ∀ {n : Nat} {p : Pl}, ρ (sig l nxL n) = some p → sig l nxL n ≠ nxL := fun hp h => by rw [h, hzz] at hp; cases hp
  have own : ∀ {o1 o : SObj}, entO e e' (sig l nxL) o1 o → o.owner = true → o1.owner = true ∧ SObj.ent e e' (sig l nxL) o1 o := by
    intro o1 o h ho
    unfold entO at h
    split at h
    · cases ho
    · exact h
  have habs : ∃ μ, AbsAll e' A (ρ.re (sig l nxL)) (cden H.h) w μ := by
    obtain ⟨μ, hA⟩ := hs.hs.abs
    have back : ∀ n k st refs, hget (cden H.h) n = some (.abs k st refs) → ∃ st0, hget (cden hL) (sig l nxL n) = some (.abs k st0 (refs.map (sig l nxL))) ∧ (st0.den e).I = (st.den e').I ∧ e'.ab = e.ab := by
      intro n k st refs hn
      obtain ⟨o2, hg, hent⟩ := entHp_get e e' (sig l nxL) hhp hn
      have h2 := (own hent rfl).2
      cases o2 <;> simp only [SObj.ent] at h2
      obtain ⟨rfl, h3, rfl, h4⟩ := h2
      exact ⟨_, hg, h3, h4⟩
    by_cases hany : ∃ n k st refs, hget (cden H.h) n = some (.abs k st refs)
    · obtain ⟨n0, k0, st0, refs0, hn0⟩ := hany
      obtain ⟨_, _, _, hab⟩ := back n0 k0 st0 refs0 hn0
      refine ⟨_, hA.turn (sig l nxL) (fun n k st refs hn => ?_) hab (fun _ _ _ _ _ _ _ _ _ => rfl) (fun n k st refs c hn hc => ?_) (fun n k st refs c m o q hn hc hm ho hq => ?_) (fun n k st refs m k' st' refs' hn hm hσ => ?_) (fun n k st refs c hn hc => hA.fz _ k st refs c hn hc)⟩
      · obtain ⟨st0, g1, g2, _⟩ := back n k st refs hn
        exact ⟨st0, g1, g2, rfl, fun _ _ => rfl⟩
      · obtain ⟨st0, g1, g2, _⟩ := back n k st refs hn
        exact hA.own _ _ _ _ c g1 hc
      · obtain ⟨st0, g1, g2, _⟩ := back n k st refs hn
        obtain ⟨o1, hg1, ent1⟩ := entHp_get e e' (sig l nxL) hhp hm
        exact hA.apart _ _ _ _ c _ o1 q g1 hc hg1 (own ent1 ho).1 hq
      · obtain ⟨_, g1, _⟩ := back n k st refs hn
        obtain ⟨_, g2, _⟩ := back m k' st' refs' hm
        obtain ⟨p1, _, hp1, _⟩ := (hs.hs.objs _ _ g1).place rfl
        obtain ⟨p2, _, hp2, _⟩ := (hs.hs.objs _ _ g2).place rfl
        have m1 := sig_mem (nz hp1)
        have m2 := sig_mem (nz hp2)
        rw [hσ] at m1
        exact inj_of_allDiff hinj m1 m2
    · exact AbsAll.none fun n o hn => by
        cases o with
        | abs k st refs => exact absurd ⟨n, k, st, refs, hn⟩ hany
        | _ => rfl
  have hfz : FzOk A (ρ.re (sig l nxL)) (cden H.h) w := ⟨hs.hs.fz.at_, fun b x n o p hb hn ho hp => (entHp_get e e' (sig l nxL) hhp hn).elim fun o1 g => hs.hs.fz.free b x _ o1 p hb g.1 (own g.2 ho).1 hp, hs.hs.fz.old⟩
  refine ⟨⟨hs.hs.below, fun n o hn => ?_, fun m n o o' p q hm hn ho ho' hp hq he => ?_, habs, hfz⟩, ?_, ?_, fun n p hp => ?_⟩
  · obtain ⟨o2, hg, hent⟩ := entHp_get e e' (sig l nxL) hhp hn
    have hho : headObj o = true := by
      have : ∀ {c : CHeap}, cget c n = some o → c.all (fun x => headObj x.2) = true → headObj o = true := by
        intro c
        induction c with
        | nil => intro h; cases h
        | cons x r ih =>
          intro h ha
          obtain ⟨k, z⟩ := x
          simp only [List.all_cons, Bool.and_eq_true] at ha
          unfold cget at h
          cases hb : Nat.beq k n with
          | true => rw [hb] at h; simp only [cond_true, Option.some.injEq] at h; subst h; exact ha.1
          | false => rw [hb] at h; exact ih h ha.2
      exact this hn hobj
    refine entO_ok hent rfl ?_ (hs.hs.objs _ o2 hg)
    cases o with
    | cells _ _ => exact .inr (.inl rfl)
    | row _ _ _ _ _ => exact .inr (.inl rfl)
    | map _ _ _ _ _ => exact .inr (.inl rfl)
    | abs _ _ _ => exact .inr (.inl rfl)
    | chan _ => exact .inr (.inl rfl)
    | inp a b c => exact .inr (.inr ⟨a, b, c, rfl⟩)
    | gone => exact .inl rfl
    | _ => cases hho
  · obtain ⟨o1, g1, ent1⟩ := entHp_get e e' (sig l nxL) hhp hm
    obtain ⟨o2, g2, ent2⟩ := entHp_get e e' (sig l nxL) hhp hn
    have hσ := hs.hs.inj _ _ o1 o2 p q g1 g2 (own ent1 ho).1 (own ent2 ho').1 hp hq he
    have m1 := sig_mem (nz hp)
    have m2 := sig_mem (nz hq)
    rw [hσ] at m1
    exact inj_of_allDiff hinj m1 m2
  · refine mkSl_rels (vs := a.tmps.toList) (fun j v hv => ?_) a.tmps.toList 0 N (fun k => by rw [Nat.zero_add]) hal
    cases ho : ovGet H.ov j with
    | none => show (a.tmps.toList[j]?).getD undef = v; rw [hv]; rfl
    | some y =>
      obtain ⟨x, hx, hent⟩ := entOv_get e e' (sig l nxL) hov ho
      obtain ⟨v', hv', hr⟩ := hs.sl.get hx
      rw [hv] at hv'; injection hv' with hv'; subst hv'
      exact SV.ent_ok e e' (sig l nxL) hent hr
  · have := hs.df; rw [hdf] at this; rw [this.nil_eq]; exact .nil
  · have hnz : sig l nxL n ≠ nxL := fun h => by
      have hp' : ρ (sig l nxL n) = some p := hp
      rw [h, hzz] at hp'; cases hp'
    have := List.all_eq_true.1 hlt _ (sig_mem hnz)
    simp only [Bool.and_eq_true] at this
    have h1 := this.1
    unfold Nat.blt at h1
    exact Nat.le_of_ble_eq_true h1

end

/-- What is asked of the paths of a round that goes on. -/
structure Turns (e e' : Env) (q : Leaf) (H : Head) (l : List (Nat × Nat)) (keep fixed : List Nat) (u : Nat → Value) : Prop where
  ov : entOv e e' (sig l q.nx) q.fr.sl H.ov
  hp : entHp e e' (sig l q.nx) q.h H.h
  inj : allDiff (l.map (·.2)) = true
  lt : l.all (fun x => Nat.blt x.1 H.m && Nat.blt x.2 q.nx) = true
  df : q.fr.df = []
  keep : ∀ j ∈ keep, nth q.fr.sl j = some (.cst (u j))
  fixed : ∀ k ∈ fixed, sig l q.nx k = k

/-- A state, finished here and there. -/
structure Thaw (env : Env) (q q' : Leaf) : Prop where
  nx : q'.nx = q.nx
  len : q'.fr.sl.length = q.fr.sl.length
  sat : ∀ (A : Anchor) ρ (a : Act) w, Sat env A ρ q.fr (cden q.h) q.nx a w → ∃ ρ', ρ.le ρ' ∧ Sat env A ρ' q'.fr (cden q'.h) q'.nx a w
theorem Thaw.refl {env : Env} (q : Leaf) : Thaw env q q := ⟨rfl, rfl, fun A ρ a w hs => ⟨ρ, PMap.le_refl ρ, hs⟩⟩
theorem Thaw.trans {env : Env} {a b c : Leaf} (h : Thaw env a b) (k : Thaw env b c) : Thaw env a c := ⟨k.nx.trans h.nx, k.len.trans h.len, fun A ρ x w hs => by
  obtain ⟨ρ1, h1, h2⟩ := h.sat A ρ x w hs
  obtain ⟨ρ2, k1, k2⟩ := k.sat A ρ1 x w h2
  exact ⟨ρ2, PMap.le_trans h1 k1, k2⟩⟩

theorem loop_canon {P : Program} (hP : Plain P) (hM : P.follows .mixedOrders = true) {f : FuncId} {c : Code} (hfit : InBody P f (loopsOf c)) {N : Nat} {heads : Nat → Head} {env : Nat → Env} {A : Anchor} {n : Nat} {mode : Nat → Nat → Prop}
    {X : XCtr} (hX : ∀ i, i ≤ n → ExtOk P (env i) A (X.toExt P)) {fuel np : Nat} {js : List Nat} {leaves : Nat → (Nat → Value) → List Leaf} {keep fixed : List Nat} {u0 : Nat → Value} {ρ0 : PMap} {Q : Exit → Act → World → Prop}
    (hpaths : ∀ i μ u, mode i μ → exploreF P X fuel (.code f c ⟨mkSl (heads μ).ov u 0 N, []⟩) (heads μ).h (heads μ).m np (heads μ).fs js = .ok (leaves μ u))
    (hfs : ∀ i μ, mode i μ → i ≤ n → (heads μ).fs.Hold (env i))
    (hobj : ∀ i μ, mode i μ → (heads μ).h.all (fun x => headObj x.2) = true)
    (hlen : ∀ i μ u, mode i μ → ∀ q ∈ leaves μ u, q.ex = .normal → q.fr.sl.length = N)
    (hstep : ∀ i μ u, mode i μ → i ≤ n → (∀ j ∈ keep, u j = u0 j) → ∀ q ∈ leaves μ u, q.fs.Hold (env i) → (∀ e ∈ q.vcs, e.den (env i)) ∧
      (q.ex = .normal → i < n ∧ ∃ μ' l q', mode (i + 1) μ' ∧ Thaw (env i) q q' ∧ Turns (env i) (env (i + 1)) q' (heads μ') l keep fixed u))
    (hexit : ∀ i μ u ρ a' w', mode i μ → i ≤ n → ∀ q ∈ leaves μ u, q.fs.Hold (env i) → q.ex ≠ .normal → (∀ j ∈ keep, u j = u0 j) → ((∀ k ∈ fixed, ∀ p, ρ0 k = some p → ρ k = some p) ∧ ∀ b x, ρ0.fz b = some x → ρ.fz b = some x) →
      Sat (env i) A ρ q.fr (cden q.h) q.nx a' w' → Q q.ex.den a' w')
    {μ0 : Nat} (hm0 : mode 0 μ0) {a : Act} {w : World} (hs : Sat (env 0) A ρ0 ⟨mkSl (heads μ0).ov u0 0 N, []⟩ (cden (heads μ0).h) (heads μ0).m a w) : (Code.loop c).wp P Q a w := by
  let I : Nat → Act → World → Prop := fun r a' w' => ∃ i μ ρ u, i + r = n ∧ mode i μ ∧ (∀ j ∈ keep, u j = u0 j) ∧ ((∀ k ∈ fixed, ∀ p, ρ0 k = some p → ρ k = some p) ∧ ∀ b x, ρ0.fz b = some x → ρ.fz b = some x) ∧
    Sat (env i) A ρ ⟨mkSl (heads μ).ov u 0 N, []⟩ (cden (heads μ).h) (heads μ).m a' w'
  refine loop_inv I ?_ n a w ⟨0, μ0, ρ0, u0, by omega, hm0, fun _ _ => rfl, ⟨fun _ _ _ h => h, fun _ _ h => h⟩, hs⟩
  rintro r a' w' ⟨i, μ, ρ, u, hir, hmode, hkeep, hfix, hsat⟩
  refine wp_of_exploreF hP hM (hX i (by omega)) hfit (hpaths i μ u hmode) (hfs i μ hmode (by omega)) hsat fun q hq hqf => ?_
  obtain ⟨hv, hn⟩ := hstep i μ u hmode (by omega) hkeep q hq hqf
  refine ⟨hv, fun ρ' a2 w2 hle hs2 => ?_⟩
  have hfix' : (∀ k ∈ fixed, ∀ p, ρ0 k = some p → ρ' k = some p) ∧ ∀ b x, ρ0.fz b = some x → ρ'.fz b = some x := ⟨fun k hk p hp => hle k p (hfix.1 k hk p hp), fun b x hb => hle.fz b x (hfix.2 b x hb)⟩
  by_cases hex : q.ex = .normal
  · obtain ⟨hin, μ', l, q', hm', hth, ht⟩ := hn hex
    obtain ⟨ρ3, hle3, hs3⟩ := hth.sat A ρ' a2 w2 hs2
    rw [hex]
    show ∃ m, r = m + 1 ∧ I m a2 w2
    refine ⟨r - 1, by omega, i + 1, μ', ρ3.re (sig l q'.nx), _, by omega, hm', fun j hj => ?_, ⟨fun k hk p hp => ?_, fun b x hb => hle3.fz b x (hfix'.2 b x hb)⟩, sat_turn hs3 ht.ov ht.hp (hobj _ _ hm') ht.inj ht.lt ht.df (hth.len.trans (hlen i μ u hmode q hq hex))⟩
    · obtain ⟨v, hv, hr⟩ := hs3.sl.get (by rw [← nth_eq]; exact ht.keep j hj)
      have hvu : v = u j := hr
      show (a2.tmps.toList[j]?).getD undef = u0 j
      rw [hv, hvu]
      exact hkeep j hj
    · show ρ3 (sig l q'.nx k) = some p
      rw [ht.fixed k hk]
      exact hle3 k p (hfix'.1 k hk p hp)
  · have hQ := hexit i μ u ρ' a2 w2 hmode (by omega) q hq hqf hex hkeep hfix' hs2
    cases hqe : q.ex with
    | normal => exact absurd hqe hex
    | exit m => rw [hqe] at hQ; exact hQ
    | ret => rw [hqe] at hQ; exact hQ
end Go.Sx
