/-
  SX, PART 26c: what is to be shown of objects.
-/
import Derived.Test.YtckdphmpafopmaaSxTree
namespace Go.Sx
open Go.RowKit
set_option linter.unusedVariables false
set_option linter.unusedSimpArgs false

/-! ### a row that is a tree's, behind what was added -/
def colKs : List Col → Option DKs
  | [] => some .nil
  | .tc k _ _ :: r => (colKs r).map (.cons k)
  | _ :: _ => none
def wholeR (pr : Nat → E) (len : E) (cols : List Col) (tail : List (List SV)) (sz : Nat) (len' : E) (cols' : List Col) : Option (List Ob) :=
  match headE cols', colKs cols' with
  | some x, some ks =>
    cond (projC ks x 0 cols' && len'.same (mk1 .tlen x) && Nat.beq ks.len sz && Nat.blt 0 sz)
      (match baseC ks len cols, tailC ks tail with
      | some (b, obs), some t => some (obs ++ [.t (tcatE b t) (x.prime pr)])
      | _, _ => none) none
  | _, _ => none

theorem projC_get {e : E} : ∀ {ks : DKs} {j m : Nat} {cols : List Col} {col : Col}, projC ks e j cols = true → cols[m]? = some col → ∃ k, ks.get m = some k ∧ col = .tc k e (j + m)
  | .nil, j, m, [], _, _, hm => by simp at hm
  | .nil, _, _, _ :: _, _, h, _ => by cases h
  | .cons _ _, _, _, [], _, h, _ => by cases h
  | .cons k r, j, m, c :: cs, col, h, hm => by
    cases c with
    | tc k' e' j' =>
      simp only [projC, Bool.and_eq_true] at h
      obtain ⟨⟨⟨h1, h2⟩, h3⟩, h4⟩ := h
      cases m with
      | zero =>
        simp only [List.getElem?_cons_zero, Option.some.injEq] at hm
        subst hm
        exact ⟨k, rfl, by rw [← DK.same_eq h1, ← E.same_eq h2, ← Nat.eq_of_beq_eq_true h3]; rfl⟩
      | succ m =>
        obtain ⟨k2, g1, g2⟩ := projC_get h4 (by simpa using hm)
        exact ⟨k2, g1, by rw [g2, show j + 1 + m = j + (m + 1) by omega]⟩
    | _ => cases h
theorem projC_len {e : E} : ∀ {ks : DKs} {j : Nat} {cols : List Col}, projC ks e j cols = true → cols.length = ks.len
  | .nil, j, [], _ => rfl
  | .nil, _, _ :: _, h => by cases h
  | .cons _ _, _, [], h => by cases h
  | .cons k r, j, c :: cs, h => by
    cases c with
    | tc k' e' j' =>
      simp only [projC, Bool.and_eq_true] at h
      simp [DKs.len, projC_len h.2]
    | _ => cases h
section
variable {e e' : Env} {pr : Nat → E} {okv : Nat → Bool} {σ : Nat → Nat}
theorem celC_ent {k : DK} {x : SV} {a y : E} (h : celC k x = some a) (hy : a.den e = y.den e') : SV.ent e e' σ x (dcellS k y) := by
  cases k <;> cases x <;> simp only [celC] at h <;> try (cases h; done)
  · rename_i k k' a'
    cases hk : kSame k k' with
    | false => rw [hk] at h; cases h
    | true =>
      rw [hk] at h
      simp only [cond_true, Option.some.injEq] at h
      subst h
      exact ⟨(kSame_eq' hk).symm, by rw [hy]⟩
  · simp only [Option.some.injEq] at h; subst h; show _ = _; rw [hy]
  · simp only [Option.some.injEq] at h; subst h; show _ = _; rw [hy]
  · simp only [Option.some.injEq] at h; subst h
    show (y.den e').T = []
    rw [← hy]; rfl
  · rename_i ks ks' a'
    cases hk : ks.same ks' with
    | false => rw [hk] at h; cases h
    | true =>
      rw [hk] at h
      simp only [cond_true, Option.some.injEq] at h
      subst h
      exact ⟨(DKs.same_eq hk).symm, by rw [hy]⟩
theorem rowC_get : ∀ {ks : DKs} {t : List SV} {a : E}, rowC ks t = some a → t.length = ks.len ∧ (0 < ks.len → (a.den e).T.length = 1) ∧ ∀ (j : Nat) (k : DK), ks.get j = some k → ∃ x y, t[j]? = some x ∧ celC k x = some y ∧ ((a.den e).T.head?.getD [])[j]? = some (y.den e)
  | .nil, [], a, h => by
    simp only [rowC, Option.some.injEq] at h
    exact ⟨rfl, fun h => absurd h (Nat.lt_irrefl 0), fun j k hk => by simp [DKs.get] at hk⟩
  | .nil, _ :: _, _, h => by cases h
  | .cons _ _, [], _, h => by cases h
  | .cons k r, x :: xs, a, h => by
    simp only [rowC] at h
    split at h
    · rename_i b c h1 h2
      injection h with h
      subst h
      obtain ⟨g1, _, g2⟩ := rowC_get h2
      refine ⟨by simp [DKs.len, g1], fun _ => rfl, fun j k' hk => ?_⟩
      cases j with
      | zero =>
        simp only [DKs.get, Option.some.injEq] at hk
        subst hk
        exact ⟨x, b, rfl, h1, rfl⟩
      | succ j =>
        simp only [DKs.get] at hk
        obtain ⟨x', y, a1, a2, a3⟩ := g2 j k' hk
        exact ⟨x', y, by simpa using a1, a2, a3⟩
    · cases h
theorem tailC_get {ks : DKs} (h0 : 0 < ks.len) : ∀ {tail : List (List SV)} {a : E}, tailC ks tail = some a → (a.den e).T.length = tail.length ∧ ∀ (m : Nat) (t : List SV), tail[m]? = some t → ∀ (j : Nat) (k : DK), ks.get j = some k → ∃ x y, t[j]? = some x ∧ celC k x = some y ∧ y.den e = (a.den e).at m j
  | [], a, h => by
    simp only [tailC, Option.some.injEq] at h
    subst h
    exact ⟨rfl, fun m t hm => by simp at hm⟩
  | t :: r, a, h => by
    simp only [tailC] at h
    split at h
    · rename_i b c h1 h2
      injection h with h
      subst h
      obtain ⟨_, g1, g2⟩ := rowC_get (e := e) h1
      obtain ⟨k1, k2⟩ := tailC_get h0 h2
      have hb := g1 h0
      obtain ⟨l, hl⟩ : ∃ l, (b.den e).T = [l] := by
        match hq : (b.den e).T, hb with
        | [l], _ => exact ⟨l, rfl⟩
      have hT : ((tcatE b c).den e).T = l :: (c.den e).T := by rw [tcatE_T, hl]; rfl
      refine ⟨by rw [hT, List.length_cons, k1, List.length_cons], fun m u hm j k hk => ?_⟩
      cases m with
      | zero =>
        simp only [List.getElem?_cons_zero, Option.some.injEq] at hm
        subst hm
        obtain ⟨x, y, a1, a2, a3⟩ := g2 j k hk
        refine ⟨x, y, a1, a2, ?_⟩
        unfold Dv.at
        rw [hT]
        rw [hl] at a3
        show y.den e = (l[j]?).getD (.i 0)
        have a3 : l[j]? = some (y.den e) := a3
        rw [a3]; rfl
      | succ m =>
        obtain ⟨x, y, a1, a2, a3⟩ := k2 m u (by simpa using hm) j k hk
        refine ⟨x, y, a1, a2, ?_⟩
        rw [a3]
        unfold Dv.at
        rw [hT]; rfl
    · cases h
theorem baseC_get {ks : DKs} {len b : E} {cols : List Col} {obs : List Ob} (h : baseC ks len cols = some (b, obs)) (ht : AllT e obs) :
    (len.den e).I = (b.den e).T.length ∧ ∀ i, i < (b.den e).T.length → ∀ (j : Nat) (k : DK), ks.get j = some k → ∃ x, cols[j]? = some (.tc k x j) ∧ (x.den e).at i j = (b.den e).at i j := by
  have get2 : ∀ {x : E} {j : Nat} {k : DK}, projC ks x 0 cols = true → ks.get j = some k → cols[j]? = some (.tc k x j) := by
    intro x j k hp hk
    have hlt : j < cols.length := by
      rw [projC_len hp]
      have : ∀ {ks : DKs} {j : Nat} {k : DK}, ks.get j = some k → j < ks.len := by
        intro ks
        induction ks using DKs.rec (motive_1 := fun _ => True) with
        | nil => intro j k h; simp [DKs.get] at h
        | cons k0 r _ ih =>
          intro j k h
          cases j with
          | zero => exact Nat.succ_pos _
          | succ j => simp only [DKs.get] at h; have := ih h; simp only [DKs.len]; omega
        | _ => trivial
      exact this hk
    obtain ⟨k', g1, g2⟩ := projC_get (m := j) hp (List.getElem?_eq_getElem hlt)
    rw [hk] at g1
    injection g1 with g1
    subst g1
    rw [List.getElem?_eq_getElem hlt, g2, Nat.zero_add]
  unfold baseC at h
  split at h
  · rename_i x hx
    cases hp : projC ks x 0 cols with
    | false => rw [hp] at h; cases h
    | true =>
      rw [hp] at h
      simp only [cond_true, Option.some.injEq] at h
      cases hs : len.same (mk1 .tlen x) with
      | true =>
        rw [hs] at h
        simp only [cond_true, Prod.mk.injEq] at h
        obtain ⟨rfl, rfl⟩ := h
        exact ⟨by rw [E.same_eq hs, mk1_den]; rfl, fun i hi j k hk => ⟨x, get2 hp hk, rfl⟩⟩
      | false =>
        rw [hs] at h
        simp only [cond_false, Prod.mk.injEq] at h
        obtain ⟨rfl, rfl⟩ := h
        have h0 : ((leE (.il 0) len).den e).B = true := ht _ (List.mem_cons_self ..)
        have h1 : ((leE len (mk1 .tlen x)).den e).B = true := ht _ (List.mem_cons_of_mem _ (List.mem_cons_self ..))
        rw [leE_iff] at h0 h1
        rw [mk1_den] at h1
        have h0 : (0 : Int) ≤ (len.den e).I := h0
        have h1 : (len.den e).I ≤ ((x.den e).T.length : Int) := h1
        have hT : ((E.o2 .ttake x len).den e).T = (x.den e).T.take (len.den e).I.toNat := rfl
        have hTl : ((E.o2 .ttake x len).den e).T.length = (len.den e).I.toNat := by rw [hT, List.length_take]; omega
        refine ⟨by rw [hTl]; omega, fun i hi j k hk => ⟨x, get2 hp hk, ?_⟩⟩
        rw [hTl] at hi
        unfold Dv.at
        rw [hT, List.getElem?_take_of_lt hi]
  · cases hc : (cols.isEmpty && isNought len) with
    | false => rw [hc] at h; cases h
    | true =>
      rw [hc] at h
      simp only [cond_true, Option.some.injEq, Prod.mk.injEq] at h
      obtain ⟨rfl, rfl⟩ := h
      rw [Bool.and_eq_true] at hc
      have h0 : (len.den e).I = 0 := by
        have := hc.2
        unfold isNought at this
        split at this
        · rfl
        · cases this
      exact ⟨by rw [h0]; rfl, fun i hi => absurd hi (Nat.not_lt_zero i)⟩
theorem wholeR_ok (hn : Nexts e e' pr okv) {T sz : Nat} {len len' : E} {cols cols' : List Col} {tail : List (List SV)} {l : List Ob} (h : wholeR pr len cols tail sz len' cols' = some l) (ht : AllT e l) (hle : cols'.length ≤ sz) :
    SObj.ent e e' σ (.row T sz len cols tail) (.row T sz len' cols' []) := by
  unfold wholeR at h
  split at h
  · rename_i x ks hx hks
    cases hc : (projC ks x 0 cols' && len'.same (mk1 .tlen x) && Nat.beq ks.len sz && Nat.blt 0 sz) with
    | false => rw [hc] at h; cases h
    | true =>
      rw [hc] at h
      simp only [cond_true] at h
      simp only [Bool.and_eq_true, Nat.beq_eq] at hc
      obtain ⟨⟨⟨hp, hlen⟩, hsz⟩, hpos⟩ := hc
      unfold Nat.blt at hpos
      have hpos : 0 < ks.len := by rw [hsz]; exact Nat.le_of_ble_eq_true hpos
      split at h
      · rename_i b obs t hb htl
        injection h with h
        subst h
        obtain ⟨t1, t2⟩ := allT_append.1 ht
        obtain ⟨b1, b2⟩ := baseC_get hb t1
        obtain ⟨c1, c2⟩ := tailC_get (e := e) hpos htl
        have hT : (x.den e').T = (b.den e).T ++ (t.den e).T := by
          have h2 : ((tcatE b t).den e).T = ((x.prime pr).den e).T := t2 _ (List.mem_cons_self ..)
          rw [E.prime_den hn, tcatE_T] at h2
          exact h2.symm
        have hL : (len'.den e').I = (len.den e).I + tail.length := by
          have e1 : (len'.den e').I = ((x.den e').T.length : Int) := by rw [E.same_eq hlen, mk1_den]; rfl
          rw [e1, hT, List.length_append, c1, b1]
          omega
        refine ⟨rfl, rfl, rfl, by rw [b1]; omega, hL, hle, fun j col' hj => ?_⟩
        obtain ⟨k, k1, k2⟩ := projC_get hp hj
        rw [Nat.zero_add] at k2
        subst k2
        refine ⟨fun i hi => ?_, fun m u hm => ?_⟩
        · obtain ⟨y, y1, y2⟩ := b2 i (by omega) j k k1
          refine ⟨_, y1, ?_⟩
          simp only [Col.at]
          refine dcell_ent ?_
          show (y.den e).at (i : Int).toNat j = (x.den e').at (i : Int).toNat j
          rw [Int.toNat_natCast, y2]
          unfold Dv.at
          rw [hT, List.getElem?_append_left (by omega)]
        · obtain ⟨x1, y, a1, a2, a3⟩ := c2 m u hm j k k1
          refine ⟨x1, a1, ?_⟩
          simp only [Col.at]
          refine celC_ent a2 ?_
          show y.den e = (x.den e').at ((len.den e).I + (m : Int)).toNat j
          rw [a3, b1]
          have e2 : (((b.den e).T.length : Int) + (m : Int)).toNat = (b.den e).T.length + m := by omega
          rw [e2]
          unfold Dv.at
          rw [hT, List.getElem?_append_right (by omega), Nat.add_sub_cancel_left]
      · cases h
  · cases h
end

def objC (pr : Nat → E) (okv : Nat → Bool) (σ : Nat → Nat) (o o' : SObj) : Option (List Ob) :=
  match o, o' with
  | .cells T cs, .cells T' cs' => cond (Nat.beq T T') (entCs pr okv σ cs cs') none
  | .row T sz len cols tail, .row T' sz' len' cols' [] =>
    cond (Nat.beq T T' && Nat.beq sz sz' && Nat.ble cols'.length sz)
      (cond (isNought len || colsSameP pr okv cols cols')
        (obl2 (some (.e (.o2 .le (.il 0) len) :: oblI (len'.prime pr) (addI len (.il (tail.length : Nat))))) (tailObl pr cols' len 0 tail))
        (wholeR pr len cols tail sz len' cols')) none
  | .inp sz len cols, .inp sz' len' cols' => cond (Nat.beq sz sz' && colsSame cols cols' && colsOk okv cols) (some (oblI len (len'.prime pr))) none
  | .map m ix kk sz known, .map m' ix' kk' sz' known' => cond (kkSame kk kk' && knownNoval known' && known'.all (fun p => keyOk kk p.1)) (some (oblI sz (sz'.prime pr) ++ mpObl kk m ix known m' (ix'.prime pr) (knownRen σ pr known'))) none
  | .chan a, .chan b => some (oblB a (b.prime pr))
  | .abs k st refs, .abs k' st' refs' => cond (Nat.beq k k' && natsSame refs (refs'.map σ)) (some (oblI st (st'.prime pr))) none
  | _, _ => none


section
variable {e e' : Env} {pr : Nat → E} {okv : Nat → Bool} {σ : Nat → Nat}
theorem objC_ok (hn : Nexts e e' pr okv) {o o' : SObj} {l : List Ob} (h : objC pr okv σ o o' = some l) (ht : AllT e l) : entO e e' σ o o' := by
  unfold objC at h
  split at h
  · rename_i T cs T' cs'
    cases hb : Nat.beq T T' with
    | false => rw [hb] at h; cases h
    | true => rw [hb] at h; exact ⟨rfl, Nat.eq_of_beq_eq_true hb, entCs_ok hn h ht⟩
  · rename_i T sz len cols tail T' sz' len' cols'
    cases hb : (Nat.beq T T' && Nat.beq sz sz' && Nat.ble cols'.length sz) with
    | false => rw [hb] at h; cases h
    | true =>
      rw [hb] at h
      simp only [cond_true] at h
      simp only [Bool.and_eq_true, Nat.beq_eq] at hb
      obtain ⟨⟨hT, hsz⟩, hle⟩ := hb
      cases hcols : (isNought len || colsSameP pr okv cols cols') with
      | false =>
        rw [hcols] at h
        exact ⟨rfl, by subst hT; subst hsz; exact wholeR_ok hn h ht (Nat.le_of_ble_eq_true hle)⟩
      | true =>
        rw [hcols] at h
        simp only [cond_true] at h
        obtain ⟨l1, l2, h1, h2, rfl⟩ := obl2_some h
        obtain ⟨t1, t2⟩ := allT_append.1 ht
        injection h1 with h1
        subst h1
        have h0 : 0 ≤ (len.den e).I := by
          have this : ((E.o2 .le (.il 0) len).den e).B = true := t1 _ (List.mem_cons_self ..)
          rw [B_le] at this
          exact of_decide_eq_true this
        have hl : (len'.den e').I = (len.den e).I + tail.length := by
          have := oblI_ok (fun x hx => t1 x (List.mem_cons_of_mem _ hx))
          rw [E.prime_den hn, addI_I] at this
          exact this
        refine ⟨rfl, hT, hsz, rfl, h0, hl, Nat.le_of_ble_eq_true hle, fun j col' hj => ⟨fun i hi => ?_, fun k t hk => ?_⟩⟩
        · rw [Bool.or_eq_true] at hcols
          rcases hcols with hz | hs
          · have : (len.den e).I = 0 := by
              unfold isNought at hz
              split at hz
              · rfl
              · cases hz
            omega
          · obtain ⟨col, h1, h2⟩ := colsSameP_get hs hj
            exact ⟨col, h1, col_entP hn h2 i⟩
        · have := tailObl_ok hn h2 t2 (σ := σ) j col' hj k t hk
          rw [Nat.zero_add] at this
          exact this
  · rename_i sz len cols sz' len' cols'
    cases hb : (Nat.beq sz sz' && colsSame cols cols' && colsOk okv cols) with
    | false => rw [hb] at h; cases h
    | true =>
      rw [hb] at h
      simp only [cond_true, Option.some.injEq] at h
      subst h
      simp only [Bool.and_eq_true, Nat.beq_eq] at hb
      exact ⟨hb.1.1, by rw [oblI_ok ht, E.prime_den hn], colsSame_eq hb.1.2, fun col hm i => col_ent hn hb.2 hm i⟩
  · rename_i m ix kk sz known m' ix' kk' sz' known'
    cases hb : (kkSame kk kk' && knownNoval known' && known'.all (fun p => keyOk kk p.1)) with
    | false => rw [hb] at h; cases h
    | true =>
      rw [hb] at h
      simp only [cond_true, Option.some.injEq] at h
      subst h
      simp only [Bool.and_eq_true] at hb
      obtain ⟨⟨hb1, hb2⟩, hb3⟩ := hb
      obtain ⟨t1, t2⟩ := allT_append.1 ht
      obtain ⟨kv, kv', h1, h1', h2⟩ := mpObl_ok t2
      rw [flK_ren hn hb2] at h1'
      refine ⟨rfl, kkSame_eq hb1, fun p hp => List.all_eq_true.1 hb3 p hp, by rw [oblI_ok t1, E.prime_den hn], kv, kv', h1, h1', fun k hk => ?_⟩
      rw [h2 k hk, E.prime_den hn]
      congr 1
      unfold res
      split
      · rfl
      · rw [hn.mp]
  · rename_i a b
    simp only [Option.some.injEq] at h
    subst h
    exact ⟨rfl, by show _ = _; rw [oblB_ok ht, E.prime_den hn]⟩
  · rename_i k st refs k' st' refs'
    cases hb : (Nat.beq k k' && natsSame refs (refs'.map σ)) with
    | false => rw [hb] at h; cases h
    | true =>
      rw [hb] at h
      simp only [cond_true, Option.some.injEq] at h
      subst h
      simp only [Bool.and_eq_true, Nat.beq_eq] at hb
      exact ⟨rfl, hb.1, by rw [oblI_ok ht, E.prime_den hn], natsSame_eq hb.2, hn.ab⟩
  · cases h
end
end Go.Sx
