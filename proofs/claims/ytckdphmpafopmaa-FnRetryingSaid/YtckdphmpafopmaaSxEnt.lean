/-
  SX, PART 21: when one symbolic state says all that another says: values, objects, with names turned.
-/
import Derived.Test.YtckdphmpafopmaaSxRo
namespace Go.Sx
open Go.RowKit
set_option linter.unusedVariables false
set_option linter.unusedSimpArgs false

section
variable (e e' : Env) (σ : Nat → Nat)

mutual
/-- What 'x' says in 'e' says 'y' in 'e'', whose names are 'σ's. -/
def SV.ent : SV → SV → Prop
  | x, .top => True
  | .int k a, .int k' b => k = k' ∧ (a.den e).I = (b.den e').I
  | .bool a, .bool b => (a.den e).B = (b.den e').B
  | .str a, .str b => (a.den e).S = (b.den e').S
  | .val c a, .val d b => e.val c (a.den e).I = e'.val d (b.den e').I
  | .nilp, .nilp => True
  | .ptr n o, .ptr m o' => n = σ m ∧ o.den e = o'.den e'
  | .ptr _ _, .anyp => False
  | .anyp, .anyp => True
  | .nilsl, .nilsl => True
  | .sl n sz lo len, .sl m sz' lo' len' => n = σ m ∧ sz = sz' ∧ (lo.den e).I = (lo'.den e').I ∧ (len.den e).I = (len'.den e').I
  | .dsl ks a, .dsl ks' b => ks = ks' ∧ (a.den e).T = (b.den e').T
  | .nilsl, .dsl _ b => (b.den e').T = []
  | .nilmap, .nilmap => True
  | .map n, .map m => n = σ m
  | .chan n, .chan m => n = σ m
  | .nilch, .nilch => True
  | .nilfn, .nilfn => True
  | .fn f a c, .fn g b d => f = g ∧ SV.ents a b ∧ SV.ents c d
  | .nilif, .nilif => True
  | .ifc t x, .ifc u y => t = u ∧ SV.ent x y
  | .agg l, .agg m => SV.ents l m
  | .tup l, .tup m => SV.ents l m
  | .cst v, .cst u => v = u
  | _, _ => False
def SV.ents : List SV → List SV → Prop
  | [], [] => True
  | x :: l, y :: m => SV.ent x y ∧ SV.ents l m
  | _, _ => False
end

mutual
theorem SV.ent_ok {ρ : PMap} : ∀ {x y : SV} {v : Value}, SV.ent e e' σ x y → x.Rel e ρ v → y.Rel e' (ρ.re σ) v := by
  intro x y v h hx
  cases y with
  | top => trivial
  | int k b =>
    cases x <;> simp only [SV.ent] at h
    obtain ⟨rfl, h⟩ := h
    simp only [SV.Rel] at hx ⊢
    rw [hx, h]
  | bool b => cases x <;> simp only [SV.ent] at h; simp only [SV.Rel] at hx ⊢; rw [hx, h]
  | str b => cases x <;> simp only [SV.ent] at h; simp only [SV.Rel] at hx ⊢; rw [hx, h]
  | flt f => cases x <;> simp only [SV.ent] at h
  | val d b => cases x <;> simp only [SV.ent] at h; simp only [SV.Rel] at hx ⊢; rw [hx, h]
  | nilp => cases x <;> simp only [SV.ent] at h; exact hx
  | anyp => cases x <;> simp only [SV.ent] at h; exact hx
  | ptr m o =>
    cases x <;> simp only [SV.ent] at h
    obtain ⟨rfl, h⟩ := h
    simp only [SV.Rel] at hx ⊢
    obtain ⟨p, hp, rfl⟩ := hx
    exact ⟨p, hp, by rw [h]⟩
  | nilsl => cases x <;> simp only [SV.ent] at h; exact hx
  | sl m sz lo len =>
    cases x <;> simp only [SV.ent] at h
    obtain ⟨rfl, rfl, h1, h2⟩ := h
    simp only [SV.Rel] at hx ⊢
    rw [h1, h2] at hx
    exact hx
  | dsl ks b =>
    cases x <;> simp only [SV.ent] at h
    · simp only [SV.Rel] at hx ⊢
      subst hx
      simp only [DK.Rel]
      exact ⟨none, 0, by rw [h]; rfl, by rw [h]; exact Nat.le_refl 0, fun hl => by rw [h] at hl; exact absurd hl (Nat.lt_irrefl 0)⟩
    · obtain ⟨rfl, h⟩ := h
      simp only [SV.Rel] at hx ⊢
      exact hx.rows h
  | dptr _ _ _ _ => cases x <;> simp only [SV.ent] at h
  | nilmap => cases x <;> simp only [SV.ent] at h; exact hx
  | map m => cases x <;> simp only [SV.ent] at h; subst h; exact hx
  | chan m => cases x <;> simp only [SV.ent] at h; subst h; exact hx
  | nilch => cases x <;> simp only [SV.ent] at h; exact hx
  | nilfn => cases x <;> simp only [SV.ent] at h; exact hx
  | fn g b d =>
    cases x <;> simp only [SV.ent] at h
    obtain ⟨rfl, h1, h2⟩ := h
    simp only [SV.Rel] at hx ⊢
    obtain ⟨p, q, rfl, k1, k2⟩ := hx
    exact ⟨p, q, rfl, SV.ents_ok h1 k1, SV.ents_ok h2 k2⟩
  | nilif => cases x <;> simp only [SV.ent] at h; exact hx
  | ifc u y =>
    cases x <;> simp only [SV.ent] at h
    obtain ⟨rfl, h⟩ := h
    simp only [SV.Rel] at hx ⊢
    obtain ⟨z, rfl, k⟩ := hx
    exact ⟨z, rfl, SV.ent_ok h k⟩
  | agg m =>
    cases x <;> simp only [SV.ent] at h
    simp only [SV.Rel] at hx ⊢
    obtain ⟨z, rfl, k⟩ := hx
    exact ⟨z, rfl, SV.ents_ok h k⟩
  | tup m =>
    cases x <;> simp only [SV.ent] at h
    simp only [SV.Rel] at hx ⊢
    obtain ⟨z, rfl, k⟩ := hx
    exact ⟨z, rfl, SV.ents_ok h k⟩
  | cst u => cases x <;> simp only [SV.ent] at h; subst h; exact hx
theorem SV.ents_ok {ρ : PMap} : ∀ {l m : List SV} {vs : List Value}, SV.ents e e' σ l m → SV.Rels e ρ l vs → SV.Rels e' (ρ.re σ) m vs := by
  intro l m vs h hx
  cases m with
  | nil =>
    cases l with
    | nil => exact hx
    | cons _ _ => simp only [SV.ents] at h
  | cons y m =>
    cases l with
    | nil => simp only [SV.ents] at h
    | cons x l =>
      simp only [SV.ents] at h
      simp only [SV.Rels] at hx ⊢
      obtain ⟨v, r, rfl, h1, h2⟩ := hx
      exact ⟨v, r, rfl, SV.ent_ok h.1 h1, SV.ents_ok h.2 h2⟩
end

/-- The same for objects. A row's tail may be taken into its columns. -/
def SObj.ent : SObj → SObj → Prop
  | _, .gone => True
  | .cells T cs, .cells T' cs' => T = T' ∧ SV.ents e e' σ cs cs'
  | .row T sz len cols tail, .row T' sz' len' cols' tail' => T = T' ∧ sz = sz' ∧ tail' = [] ∧ 0 ≤ (len.den e).I ∧ (len'.den e').I = (len.den e).I + tail.length ∧ cols'.length ≤ sz ∧
      ∀ (j : Nat) (col' : Col), cols'[j]? = some col' →
        (∀ i : Nat, (i : Int) < (len.den e).I → ∃ col, cols[j]? = some col ∧ SV.ent e e' σ (col.at (.il i)) (col'.at (.il i))) ∧
        (∀ (k : Nat) (t : List SV), tail[k]? = some t → ∃ x, t[j]? = some x ∧ SV.ent e e' σ x (col'.at (.il ((len.den e).I + k))))
  | .map m ix kk sz known, .map m' ix' kk' sz' known' => kk = kk' ∧ (∀ p ∈ known', keyOk kk p.1 = true) ∧ (sz.den e).I = (sz'.den e').I ∧ ∃ kv kv', flK e known = some kv ∧ flK e' known' = some kv' ∧ ∀ k, kk.ok k → cont kv (res e m (ix.den e).I) k = cont kv' (res e' m' (ix'.den e').I) k
  | .chan a, .chan b => (a.den e).B = (b.den e').B
  | .abs k st refs, .abs k' st' refs' => k = k' ∧ (st.den e).I = (st'.den e').I ∧ refs = refs'.map σ ∧ e'.ab = e.ab
  | _, _ => False

theorem flK_ok {e : Env} {ρ : PMap} {kk : KK} : ∀ {l : List (SV × KV)} {kv kv' : List (Value × Option Value)}, flK e l = some kv → KnownRel e ρ kk l kv' → kv' = kv
  | [], kv, kv', h, r => by simp only [flK, Option.some.injEq] at h; simp only [KnownRel] at r; rw [r, h]
  | (k, x) :: l, kv, kv', h, ⟨a, b, q, e1, h1, h2, h3, h4⟩ => by
    simp only [flK] at h
    split at h
    · rename_i a' b' r' g1 g2 g3
      injection h with h
      subst h
      rw [e1, SV.fl_ok g1 h2, flK_ok g3 h4]
      have : b = b' := by
        cases x with
        | no => simp only [flO, Option.some.injEq] at g2; have h3 : b = none := h3; rw [h3, g2]
        | yes x =>
          simp only [flO, Option.map_eq_some_iff] at g2
          obtain ⟨u, gu, rfl⟩ := g2
          obtain ⟨v, rfl, h3⟩ := h3
          rw [SV.fl_ok gu h3]
        | may t x =>
          simp only [flO, Option.map_eq_some_iff] at g2
          obtain ⟨u, gu, rfl⟩ := g2
          simp only [KV.Rel] at h3
          cases ht : (t.den e).B with
          | true => rw [ht] at h3; obtain ⟨v, rfl, h3⟩ := h3; rw [SV.fl_ok gu h3]; rfl
          | false => rw [ht] at h3; exact h3
      rw [this]
    · cases h

mutual
theorem SV.fl_rel {e : Env} {ρ : PMap} : ∀ {x : SV} {u : Value}, SV.fl e x = some u → x.Rel e ρ u
  | .int .., _, h => by simp only [SV.fl, Option.some.injEq] at h; exact h.symm
  | .bool .., _, h => by simp only [SV.fl, Option.some.injEq] at h; exact h.symm
  | .str .., _, h => by simp only [SV.fl, Option.some.injEq] at h; exact h.symm
  | .val .., _, h => by simp only [SV.fl, Option.some.injEq] at h; exact h.symm
  | .nilp, _, h => by simp only [SV.fl, Option.some.injEq] at h; exact h.symm
  | .nilsl, _, h => by simp only [SV.fl, Option.some.injEq] at h; exact h.symm
  | .nilif, _, h => by simp only [SV.fl, Option.some.injEq] at h; exact h.symm
  | .agg l, _, h => by
    simp only [SV.fl, Option.map_eq_some_iff] at h
    obtain ⟨vs, h1, h2⟩ := h
    exact ⟨vs, h2.symm, SV.fls_rel h1⟩
  | .flt .., _, h => by simp [SV.fl] at h
  | .ptr .., _, h => by simp [SV.fl] at h
  | .anyp, _, h => by simp [SV.fl] at h
  | .sl .., _, h => by simp [SV.fl] at h
  | .nilmap, _, h => by simp [SV.fl] at h
  | .map .., _, h => by simp [SV.fl] at h
  | .chan .., _, h => by simp [SV.fl] at h
  | .nilch, _, h => by simp [SV.fl] at h
  | .nilfn, _, h => by simp [SV.fl] at h
  | .fn .., _, h => by simp [SV.fl] at h
  | .ifc .., _, h => by simp [SV.fl] at h
  | .tup .., _, h => by simp [SV.fl] at h
  | .top, _, h => by simp [SV.fl] at h
  | .cst .., _, h => by simp [SV.fl] at h
theorem SV.fls_rel {e : Env} {ρ : PMap} : ∀ {l : List SV} {us : List Value}, SV.fls e l = some us → SV.Rels e ρ l us
  | [], us, h => by simp only [SV.fls, Option.some.injEq] at h; exact h.symm
  | x :: l, us, h => by
    simp only [SV.fls] at h
    split at h
    · rename_i u us' h1 h2
      injection h with h; subst h
      exact ⟨u, us', rfl, SV.fl_rel h1, SV.fls_rel h2⟩
    · cases h
end
theorem flK_rel {e : Env} {ρ : PMap} {kk : KK} : ∀ {l : List (SV × KV)} {kv : List (Value × Option Value)}, flK e l = some kv → (∀ p ∈ l, keyOk kk p.1 = true) → KnownRel e ρ kk l kv
  | [], kv, h, _ => by simp only [flK, Option.some.injEq] at h; exact h.symm
  | (k, x) :: l, kv, h, hk => by
    simp only [flK] at h
    split at h
    · rename_i a b r g1 g2 g3
      injection h with h; subst h
      have hka : k.Rel e ρ a := SV.fl_rel g1
      refine ⟨a, b, r, rfl, keyOk_ok (hk _ (List.mem_cons_self ..)) hka, hka, ?_, flK_rel g3 fun p hp => hk p (List.mem_cons_of_mem _ hp)⟩
      cases x with
      | no => simp only [flO, Option.some.injEq] at g2; exact g2.symm
      | yes x => simp only [flO, Option.map_eq_some_iff] at g2; obtain ⟨u, gu, rfl⟩ := g2; exact ⟨u, rfl, SV.fl_rel gu⟩
      | may t x =>
        simp only [flO, Option.map_eq_some_iff] at g2
        obtain ⟨u, gu, rfl⟩ := g2
        simp only [KV.Rel]
        cases (t.den e).B with
        | true => exact ⟨u, rfl, SV.fl_rel gu⟩
        | false => rfl
    · cases h

theorem flatten_at {α : Type} {sz : Nat} : ∀ {l : List (List α)} {k j : Nat} {t : List α}, (∀ t ∈ l, t.length = sz) → l[k]? = some t → j < sz → l.flatten[k * sz + j]? = t[j]?
  | [], k, j, t, _, h, _ => by simp at h
  | u :: l, 0, j, t, hl, h, hj => by
    simp only [List.getElem?_cons_zero, Option.some.injEq] at h
    subst h
    have := hl u (List.mem_cons_self ..)
    rw [Nat.zero_mul, Nat.zero_add, List.flatten_cons, List.getElem?_append_left (by omega)]
  | u :: l, k + 1, j, t, hl, h, hj => by
    have hu := hl u (List.mem_cons_self ..)
    have ih := flatten_at (l := l) (k := k) (j := j) (t := t) (fun t ht => hl t (List.mem_cons_of_mem _ ht)) (by simpa using h) hj
    rw [List.flatten_cons, List.getElem?_append_right (by rw [hu, Nat.succ_mul]; omega), ← ih]
    congr 1
    rw [hu, Nat.succ_mul]; omega

theorem RowRel.ent {ρ : PMap} {sz : Nat} {len len' : E} {cols cols' : List Col} {tail : List (List SV)} {vs : List Value} (h : RowRel e ρ sz len cols tail vs) (h0 : 0 ≤ (len.den e).I)
    (hl : (len'.den e').I = (len.den e).I + tail.length) (hc : cols'.length ≤ sz)
    (hcol : ∀ (j : Nat) (col' : Col), cols'[j]? = some col' →
        (∀ i : Nat, (i : Int) < (len.den e).I → ∃ col, cols[j]? = some col ∧ SV.ent e e' σ (col.at (.il i)) (col'.at (.il i))) ∧
        (∀ (k : Nat) (t : List SV), tail[k]? = some t → ∃ x, t[j]? = some x ∧ SV.ent e e' σ x (col'.at (.il ((len.den e).I + k))))) :
    RowRel e' (ρ.re σ) sz len' cols' [] vs := by
  obtain ⟨base, tl, rfl, hb, hbc, htl, hts, _⟩ := h
  obtain ⟨L, hL⟩ : ∃ L : Nat, (len.den e).I = (L : Int) := ⟨(len.den e).I.toNat, by omega⟩
  have hL2 : (len.den e).I.toNat = L := by omega
  rw [hL2] at hb hbc
  have hlen' : (len'.den e').I.toNat = L + tail.length := by rw [hl, hL]; omega
  have hflat : tail.flatten.length = tail.length * sz := by
    clear htl hl hlen' hcol
    induction tail with
    | nil => simp
    | cons t r ih =>
      rw [List.flatten_cons, List.length_append, hts t (List.mem_cons_self ..), ih (fun u hu => hts u (List.mem_cons_of_mem _ hu)), List.length_cons, Nat.succ_mul]; omega
  have htll := htl.length
  refine ⟨base ++ tl, [], by simp, ?_, fun i hi j col' hj => ?_, rfl, fun t ht => (by cases ht), hc⟩
  · rw [hlen', List.length_append, hb, htll, hflat, Nat.add_mul]
  · rw [hlen'] at hi
    have hjs : j < sz := Nat.lt_of_lt_of_le (List.getElem?_eq_some_iff.1 hj).1 hc
    obtain ⟨h1, h2⟩ := hcol j col' hj
    by_cases hiL : i < L
    · obtain ⟨col, hcj, hent⟩ := h1 i (by omega)
      obtain ⟨v, hv, hr⟩ := hbc i hiL j col hcj
      refine ⟨v, ?_, SV.ent_ok e e' σ hent hr⟩
      rw [List.getElem?_append_left (by
        have := (List.getElem?_eq_some_iff.1 hv).1
        exact this)]
      exact hv
    · obtain ⟨k, rfl⟩ : ∃ k, i = L + k := ⟨i - L, by omega⟩
      have hkt : k < tail.length := by omega
      obtain ⟨x, hx, hent⟩ := h2 k tail[k] (List.getElem?_eq_getElem hkt)
      have hfg := flatten_at (j := j) hts (List.getElem?_eq_getElem hkt) hjs
      rw [hx] at hfg
      obtain ⟨v, hv, hr⟩ := htl.get hfg
      refine ⟨v, ?_, ?_⟩
      · rw [List.getElem?_append_right (by rw [hb, Nat.add_mul]; omega), ← hv]
        congr 1
        rw [hb, Nat.add_mul]; omega
      · have := SV.ent_ok e e' σ hent hr
        rw [hL] at this
        exact this

theorem SObj.ent_ok' {A B : Anchor} {ρ : PMap} {n m : Nat} {o o' : SObj} {w : World} (hAB : ∀ p, ρ n = some p → ¬ A.K p.block → ¬ B.K p.block) (h : SObj.ent e e' σ o o') (ho : o'.owner = true) (hn : n = σ m) (hr : o.Rel e A ρ n w) :
    o'.Rel e' B (ρ.re σ) m w := by
  subst hn
  cases o' with
  | cells T' cs' =>
    cases o <;> simp only [SObj.ent] at h
    obtain ⟨rfl, h⟩ := h
    obtain ⟨p, vs, h1, h2, h3, h4, h5, h6⟩ := hr
    exact ⟨p, vs, h1, hAB _ h1 h2, h3, h4, SV.ents_ok e e' σ h h5, h6⟩
  | row T' sz' len' cols' tail' =>
    cases o <;> simp only [SObj.ent] at h
    obtain ⟨rfl, rfl, rfl, h0, hl, hc, hcol⟩ := h
    obtain ⟨p, vs, rest, h1, h2, h3, h4, h5, h6, h7⟩ := hr
    exact ⟨p, vs, rest, h1, hAB _ h1 h2, h3, h4, RowRel.ent e e' σ h5 h0 hl hc hcol, h6, h7⟩
  | map m' ix' kk' sz' known' =>
    cases o <;> simp only [SObj.ent] at h
    obtain ⟨rfl, hko, hsz, kv, kv2, hkv, hkv2, hc⟩ := h
    obtain ⟨p, es, clk, kv', h1, h2, h3, h4, h5, h6, h7, h8, h9⟩ := hr
    obtain rfl := flK_ok hkv h8
    exact ⟨p, es, clk, kv2, h1, hAB _ h1 h2, h3, h4, h5, h6, by rw [h7, hsz], flK_rel hkv2 hko, fun k hk => by rw [h9 k hk, hc k hk]⟩
  | chan b =>
    cases o <;> simp only [SObj.ent] at h
    obtain ⟨p, room, buf, s, r, t, h1, h2, h3, h4, h5⟩ := hr
    exact ⟨p, room, buf, s, r, t, h1, hAB _ h1 h2, h3, h4, by rw [← h]; exact h5⟩
  | abs k' st' refs' =>
    cases o <;> simp only [SObj.ent] at h
    obtain ⟨p, b, h1, h2, h3, h4, h5⟩ := hr
    exact ⟨p, b, h1, hAB _ h1 h2, h3, h4, h5⟩
  | inp _ _ _ => cases ho
  | resv => cases ho
  | gone => cases ho
theorem SObj.ent_ok {A B : Anchor} (hAB : ∀ b, ¬ A.K b → ¬ B.K b) {ρ : PMap} {n m : Nat} {o o' : SObj} {w : World} (h : SObj.ent e e' σ o o') (ho : o'.owner = true) (hn : n = σ m) (hr : o.Rel e A ρ n w) :
    o'.Rel e' B (ρ.re σ) m w := SObj.ent_ok' e e' σ (fun p _ h => hAB _ h) h ho hn hr
end
end Go.Sx
