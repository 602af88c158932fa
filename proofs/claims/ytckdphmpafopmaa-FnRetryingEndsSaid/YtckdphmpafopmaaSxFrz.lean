/-
  SX, PART 26b: rows that are finished: from then on they are data that never changes.
-/
import Derived.Test.YtckdphmpafopmaaSxLoopE
namespace Go.Sx
open Go.RowKit
set_option linter.unusedVariables false
set_option linter.unusedSimpArgs false

/-! ### a row's content as a tree -/
def dksT (P : Program) (T : TypeId) : Option DKs := (flatT P 10 T).bind dksOf
def celC : DK → SV → Option E
  | .int k, .int k' e => cond (kSame k k') (some e) none
  | .bool, .bool e => some e
  | .str, .str e => some e
  | .sl ks, .dsl ks' e => cond (ks.same ks') (some e) none
  | .sl ks, .nilsl => some (.il 0)
  | _, _ => none
def rowC : DKs → List SV → Option E
  | .nil, [] => some (.il 0)
  | .cons k r, x :: xs =>
    match celC k x, rowC r xs with
    | some a, some b => some (.o2 .cel a b)
    | _, _ => none
  | _, _ => none
def tcatE (a b : E) : E :=
  match a, b with
  | .il _, b => b
  | a, .il _ => a
  | a, b => .o2 .tcat a b
def tailC (ks : DKs) : List (List SV) → Option E
  | [] => some (.il 0)
  | t :: r =>
    match rowC ks t, tailC ks r with
    | some a, some b => some (tcatE a b)
    | _, _ => none
def projC : DKs → E → Nat → List Col → Bool
  | .nil, _, _, [] => true
  | .cons k r, e, j, .tc k' e' j' :: cs => k.same k' && e.same e' && Nat.beq j j' && projC r e (j + 1) cs
  | _, _, _, _ => false
def headE : List Col → Option E
  | .tc _ e _ :: _ => some e
  | _ => none
def baseC (ks : DKs) (len : E) (cols : List Col) : Option (E × List Ob) :=
  match headE cols with
  | some e => cond (projC ks e 0 cols) (some (cond (len.same (mk1 .tlen e)) (e, []) (.o2 .ttake e len, [.e (leE (.il 0) len), .e (leE len (mk1 .tlen e))]))) none
  | none => cond (cols.isEmpty && isNought len) (some (.il 0, [])) none

section
variable {env : Env} {ρ : PMap}
theorem tcatE_T (a b : E) : ((tcatE a b).den env).T = (a.den env).T ++ (b.den env).T := by
  unfold tcatE
  split
  · rfl
  · show _ = _ ++ []; rw [List.append_nil]
  · rfl
theorem celC_ok {k : DK} {x : SV} {e : E} {v : Value} (h : celC k x = some e) (hx : x.Rel env ρ v) : k.Rel ρ.fz (e.den env) v := by
  cases k <;> cases x <;> simp only [celC] at h <;> try (cases h; done)
  · rename_i k k' a
    cases hk : kSame k k' with
    | false => rw [hk] at h; cases h
    | true =>
      rw [hk] at h
      simp only [cond_true, Option.some.injEq] at h
      subst h
      rw [kSame_eq' hk]
      exact hx
  · simp only [Option.some.injEq] at h; subst h; exact hx
  · simp only [Option.some.injEq] at h; subst h; exact hx
  · simp only [Option.some.injEq] at h; subst h
    simp only [SV.Rel] at hx
    subst hx
    simp only [DK.Rel]
    exact ⟨none, 0, rfl, Nat.le_refl 0, fun hl => absurd hl (Nat.lt_irrefl 0)⟩
  · rename_i ks ks' a
    cases hk : ks.same ks' with
    | false => rw [hk] at h; cases h
    | true =>
      rw [hk] at h
      simp only [cond_true, Option.some.injEq] at h
      subst h
      rw [DKs.same_eq hk]
      exact hx
theorem rowC_ok : ∀ {ks : DKs} {t : List SV} {e : E} {vs : List Value}, rowC ks t = some e → SV.Rels env ρ t vs →
    ∃ r, (e.den env).T.head?.getD [] = r ∧ (0 < ks.len → (e.den env).T = [r]) ∧ ∀ (row : Nat → Dv) (cell : Nat → Option Value) j, (∀ m, row (j + m) = (r[m]?).getD (.i 0)) → (∀ m, m < ks.len → cell (j + m) = vs[m]?) → ks.Rel ρ.fz row cell j
  | .nil, [], e, vs, h, _ => by
    simp only [rowC, Option.some.injEq] at h
    subst h
    exact ⟨[], rfl, fun h => absurd h (Nat.lt_irrefl 0), fun _ _ _ _ _ => trivial⟩
  | .nil, _ :: _, _, _, h, _ => by cases h
  | .cons _ _, [], _, _, h, _ => by cases h
  | .cons k r, x :: xs, e, vs, h, hr => by
    simp only [rowC] at h
    split at h
    · rename_i a b h1 h2
      injection h with h
      subst h
      simp only [SV.Rels] at hr
      obtain ⟨v, q, rfl, hx, hxs⟩ := hr
      obtain ⟨l, e1, _, e3⟩ := rowC_ok h2 hxs
      refine ⟨a.den env :: l, ?_, fun _ => ?_, fun row cell j hrow hcell => ?_⟩
      · show ((a.den env) :: ((b.den env).T.head?.getD [])) = _; rw [e1]
      · show [((a.den env) :: ((b.den env).T.head?.getD []))] = _; rw [e1]
      · simp only [DKs.Rel]
        refine ⟨⟨v, by have := hcell 0 (Nat.succ_pos _); simpa using this, ?_⟩, e3 row cell (j + 1) (fun m => ?_) (fun m hm => ?_)⟩
        · have := hrow 0
          rw [Nat.add_zero] at this
          rw [this]
          exact celC_ok h1 hx
        · have := hrow (m + 1)
          rw [show j + (m + 1) = j + 1 + m by omega] at this
          rw [this]; simp
        · have := hcell (m + 1) (by simp only [DKs.len]; omega)
          rw [show j + (m + 1) = j + 1 + m by omega] at this
          rw [this]; simp
    · cases h
theorem tailC_ok {ks : DKs} (hk : 0 < ks.len) : ∀ {tail : List (List SV)} {e : E} {tl : List Value}, tailC ks tail = some e → SV.Rels env ρ tail.flatten tl → (∀ t ∈ tail, t.length = ks.len) →
    (e.den env).T.length = tail.length ∧ ∀ i, i < tail.length → ks.Rel ρ.fz (fun j => (e.den env).at i j) (fun j => tl[i * ks.len + j]?) 0
  | [], e, tl, h, _, _ => by
    simp only [tailC, Option.some.injEq] at h
    subst h
    exact ⟨rfl, fun i hi => absurd hi (Nat.not_lt_zero i)⟩
  | t :: r, e, tl, h, hr, hl => by
    simp only [tailC] at h
    split at h
    · rename_i a b h1 h2
      injection h with h
      subst h
      have ht := hl t (List.mem_cons_self ..)
      rw [List.flatten_cons] at hr
      have hra := hr.take t.length
      have hrb := hr.drop t.length
      rw [List.take_left] at hra
      rw [List.drop_left] at hrb
      obtain ⟨l, e1, e2, e3⟩ := rowC_ok h1 hra
      have e2 := e2 hk
      obtain ⟨g1, g2⟩ := tailC_ok hk h2 hrb (fun u hu => hl u (List.mem_cons_of_mem _ hu))
      have hT : ((tcatE a b).den env).T = l :: (b.den env).T := by rw [tcatE_T, e2]; rfl
      refine ⟨by rw [hT, List.length_cons, g1, List.length_cons], fun i hi => ?_⟩
      cases i with
      | zero =>
        refine e3 _ _ 0 (fun m => ?_) (fun m hm => ?_)
        · show Dv.at _ 0 (0 + m) = _
          unfold Dv.at
          rw [hT, Nat.zero_add]; rfl
        · show tl[0 * ks.len + (0 + m)]? = _
          rw [Nat.zero_mul, Nat.zero_add, Nat.zero_add, List.getElem?_take_of_lt (by omega)]
      | succ i =>
        have := g2 i (by simpa using hi)
        have e4 : (fun j => ((tcatE a b).den env).at (i + 1) j) = fun j => (b.den env).at i j := by
          funext j
          unfold Dv.at
          rw [hT]; rfl
        have e5 : (fun j => tl[(i + 1) * ks.len + j]?) = fun j => (tl.drop t.length)[i * ks.len + j]? := by
          funext j
          rw [List.getElem?_drop, ht]
          congr 1
          rw [Nat.succ_mul]; omega
        rw [e4, e5]
        exact this
    · cases h
theorem projC_ok {e : E} {i : Nat} {f : Nat → Option Value} : ∀ {ks : DKs} {j : Nat} {cols : List Col}, projC ks e j cols = true → (∀ (m : Nat) (col : Col), cols[m]? = some col → ∃ v, f (j + m) = some v ∧ (col.at (.il i)).Rel env ρ v) →
    ks.Rel ρ.fz (fun j => (e.den env).at i j) f j ∧ cols.length = ks.len
  | .nil, j, [], _, _ => ⟨trivial, rfl⟩
  | .nil, _, _ :: _, h, _ => by cases h
  | .cons _ _, _, [], h, _ => by cases h
  | .cons k r, j, c :: cs, h, hc => by
    cases c with
    | tc k' e' j' =>
      simp only [projC, Bool.and_eq_true] at h
      obtain ⟨⟨⟨h1, h2⟩, h3⟩, h4⟩ := h
      obtain ⟨g1, g2⟩ := projC_ok (i := i) (f := f) h4 (fun m col hm => by
        have := hc (m + 1) col (by simpa using hm)
        rw [show j + (m + 1) = j + 1 + m by omega] at this
        exact this)
      refine ⟨?_, by simp [g2, DKs.len]⟩
      simp only [DKs.Rel]
      refine ⟨?_, g1⟩
      obtain ⟨v, hv, hr⟩ := hc 0 _ rfl
      refine ⟨v, by simpa using hv, ?_⟩
      rw [Col.at, dcellS_rel, ← DK.same_eq h1, ← E.same_eq h2, ← Nat.eq_of_beq_eq_true h3] at hr
      exact hr
    | _ => cases h
theorem baseC_ok {ks : DKs} {len e : E} {cols : List Col} {obs : List Ob} {base : List Value} (h : baseC ks len cols = some (e, obs)) (ht : AllT env obs) (hk : 0 < ks.len)
    (hb : ∀ (i : Nat), i < (len.den env).I.toNat → ∀ (j : Nat) (col : Col), cols[j]? = some col → ∃ v, base[i * ks.len + j]? = some v ∧ (col.at (.il i)).Rel env ρ v) :
    (len.den env).I = (e.den env).T.length ∧ ∀ i, i < (e.den env).T.length → ks.Rel ρ.fz (fun j => (e.den env).at i j) (fun j => base[i * ks.len + j]?) 0 := by
  unfold baseC at h
  split at h
  · rename_i x hx
    cases hp : projC ks x 0 cols with
    | false => rw [hp] at h; cases h
    | true =>
      rw [hp] at h
      simp only [cond_true, Option.some.injEq] at h
      have row : ∀ i, i < (len.den env).I.toNat → ks.Rel ρ.fz (fun j => (x.den env).at i j) (fun j => base[i * ks.len + j]?) 0 := fun i hi =>
        (projC_ok (i := i) (f := fun j => base[i * ks.len + j]?) hp fun m col hm => by
          obtain ⟨v, h1, h2⟩ := hb i hi m col hm
          exact ⟨v, by show base[i * ks.len + (0 + m)]? = _; rw [Nat.zero_add]; exact h1, h2⟩).1
      cases hs : len.same (mk1 .tlen x) with
      | true =>
        rw [hs] at h
        simp only [cond_true, Prod.mk.injEq] at h
        obtain ⟨rfl, rfl⟩ := h
        have hlen : (len.den env).I = (x.den env).T.length := by rw [E.same_eq hs, mk1_den]; rfl
        exact ⟨hlen, fun i hi => row i (by omega)⟩
      | false =>
        rw [hs] at h
        simp only [cond_false, Prod.mk.injEq] at h
        obtain ⟨rfl, rfl⟩ := h
        have h0 : ((leE (.il 0) len).den env).B = true := ht _ (List.mem_cons_self ..)
        have h1 : ((leE len (mk1 .tlen x)).den env).B = true := ht _ (List.mem_cons_of_mem _ (List.mem_cons_self ..))
        rw [leE_iff] at h0 h1
        rw [mk1_den] at h1
        have h0 : (0 : Int) ≤ (len.den env).I := h0
        have h1 : (len.den env).I ≤ ((x.den env).T.length : Int) := h1
        have hT : ((E.o2 .ttake x len).den env).T = (x.den env).T.take (len.den env).I.toNat := rfl
        have hTl : ((E.o2 .ttake x len).den env).T.length = (len.den env).I.toNat := by rw [hT, List.length_take]; omega
        refine ⟨by rw [hTl]; omega, fun i hi => ?_⟩
        rw [hTl] at hi
        have e1 : (fun j => ((E.o2 .ttake x len).den env).at i j) = fun j => (x.den env).at i j := by
          funext j
          unfold Dv.at
          rw [hT, List.getElem?_take_of_lt hi]
        rw [e1]
        exact row i hi
  · cases hc : (cols.isEmpty && isNought len) with
    | false => rw [hc] at h; cases h
    | true =>
      rw [hc] at h
      simp only [cond_true, Option.some.injEq, Prod.mk.injEq] at h
      obtain ⟨rfl, rfl⟩ := h
      rw [Bool.and_eq_true] at hc
      have h0 : (len.den env).I = 0 := by
        have := hc.2
        unfold isNought at this
        split at this
        · rfl
        · cases this
      exact ⟨by rw [h0]; rfl, fun i hi => absurd hi (Nat.not_lt_zero i)⟩
end

/-! ### a row is finished -/
def frzO (P : Program) : SObj → Option (DKs × Nat × E × E × List Ob)
  | .row T sz len cols tail =>
    match dksT P T with
    | some ks => cond (Nat.beq ks.len sz && Nat.blt 0 sz)
      (match baseC ks len cols, tailC ks tail with
      | some (e, obs), some t => some (ks, sz, tcatE e t, rowEnd len tail, obs)
      | _, _ => none) none
    | none => none
  | _ => none

def PMap.frz (ρ : PMap) (b : Nat) (x : Obj) : PMap := ⟨ρ.pl, fun c => if c = b then some x else ρ.fz c⟩

section
variable {P : Program} {env : Env} {w0 : Anchor} {ρ ρ' : PMap} {h : Heap} {w : World}
theorem HSat.freeze (H : HSat env w0 ρ h w) {n : Nat} {o : SObj} {p : Pl} {x : Obj} (hn : hget h n = some o) (ho : o.owner = true) (hna : o.isAbs = false) (hp : ρ n = some p) (hx : w.heap[p.block]? = some x) :
    ρ.le (ρ.frz p.block x) ∧ HSat env w0 (ρ.frz p.block x) (hput h n .gone) w := by
  have hnone : ρ.fz p.block = none := by
    cases hz : ρ.fz p.block with
    | none => rfl
    | some y => exact absurd rfl (H.fz.free _ y n o p hz hn ho hp)
  have hle : ρ.le (ρ.frz p.block x) := ⟨fun _ _ h => h, fun b y hb => by
    show (if b = p.block then some x else ρ.fz b) = some y
    by_cases e : b = p.block
    · rw [e, hnone] at hb; cases hb
    · rw [if_neg e]; exact hb⟩
  have sub : ∀ m y, hget (hput h n .gone) m = some y → y.owner = true → m ≠ n ∧ hget h m = some y := fun m y hm hy => by
    rw [hget_hput] at hm
    by_cases e : m = n
    · subst e; simp at hm; subst hm; cases hy
    · rw [if_neg e] at hm; exact ⟨e, hm⟩
  have hF := H.forget n
  refine ⟨hle, ⟨hF.below, fun m y hm => (hF.objs m y hm).keep hle (fun _ _ _ => rfl) (fun h0 _ => h0), hF.inj, ?_, ⟨fun b y hb => ?_, fun b y m o' q hb hm ho' hq => ?_, fun b y hb hk => ?_⟩⟩⟩
  · obtain ⟨μ, hA⟩ := H.abs
    refine ⟨μ, fun m k st refs hm => ?_, fun m k st refs c hm hc => hA.own m k st refs c (sub m _ hm rfl).2 hc, fun m k st refs c m' o' q hm hc hm' ho' hq => hA.apart m k st refs c m' o' q (sub m _ hm rfl).2 hc (sub m' _ hm' ho').2 ho' hq,
      fun m k st refs m' k' st' refs' c hm hm' hc hc' => hA.apart2 m k st refs m' k' st' refs' c (sub m _ hm rfl).2 (sub m' _ hm' rfl).2 hc hc', fun m k st refs c hm hc => ?_⟩
    · obtain ⟨p', qs, h1, h2, h3⟩ := hA.holds m k st refs (sub m _ hm rfl).2
      exact ⟨p', qs, h1, refPl_mono hle h2, h3⟩
    · show (if c = p.block then some x else ρ.fz c) = none
      have := hA.apart m k st refs c n o p (sub m _ hm rfl).2 hc hn ho hp
      rw [if_neg (fun e => this e.symm)]
      exact hA.fz m k st refs c (sub m _ hm rfl).2 hc
  · have hb : (if b = p.block then some x else ρ.fz b) = some y := hb
    by_cases e : b = p.block
    · rw [if_pos e] at hb; injection hb with hb; subst hb; rw [e]; exact hx
    · rw [if_neg e] at hb; exact H.fz.at_ b y hb
  · have hb : (if b = p.block then some x else ρ.fz b) = some y := hb
    obtain ⟨hne, hm2⟩ := sub m o' hm ho'
    by_cases e : b = p.block
    · intro he
      exact hne (H.inj m n o' o q p hm2 hn ho' ho hq hp (he.trans e))
    · rw [if_neg e] at hb; exact H.fz.free b y m o' q hb hm2 ho' hq
  · have hb : (if b = p.block then some x else ρ.fz b) = some y := hb
    by_cases e : b = p.block
    · obtain ⟨q, bb, hq, hqK, _⟩ := (H.objs n o hn).place ho
      rw [hp] at hq; injection hq with hq; subst hq
      rw [e] at hk
      exact absurd hk hqK
    · rw [if_neg e] at hb; exact H.fz.old b y hb hk

/-- A row's object becomes data: whatever slice stood for all of it says the tree. -/
theorem HSat.frzO (H : HSat env w0 ρ h w) {n sz : Nat} {o : SObj} {ks : DKs} {e len : E} {obs : List Ob} (hn : hget h n = some o) (hf : Go.Sx.frzO P o = some (ks, sz, e, len, obs)) (ht : AllT env obs) :
    ∃ ρ', ρ.le ρ' ∧ ρ'.pl = ρ.pl ∧ HSat env w0 ρ' (hput h n .gone) w ∧ ∀ v, (SV.sl n sz (.il 0) len).Rel env ρ v → (SV.dsl ks e).Rel env ρ' v := by
  cases o with
  | row T sz' l cols tail =>
    simp only [Go.Sx.frzO] at hf
    split at hf
    · rename_i ks' hks
      cases hc : (Nat.beq ks'.len sz' && Nat.blt 0 sz') with
      | false => rw [hc] at hf; cases hf
      | true =>
        rw [hc] at hf
        simp only [cond_true] at hf
        split at hf
        · rename_i e1 obs1 t h1 h2
          simp only [Option.some.injEq, Prod.mk.injEq] at hf
          obtain ⟨rfl, rfl, rfl, rfl, rfl⟩ := hf
          simp only [Bool.and_eq_true, Nat.beq_eq] at hc
          obtain ⟨hsz, hpos⟩ := hc
          unfold Nat.blt at hpos
          have hpos : 0 < sz' := Nat.le_of_ble_eq_true hpos
          obtain ⟨p, vs, rest, hp, hpK, hpb, hpn, hrow, hlen, hw⟩ := H.objs n _ hn
          obtain ⟨base, tl, rfl, hb1, hb2, htl, hts, hcl⟩ := hrow
          rw [← hsz] at hb1 hb2 hts hlen hpos
          obtain ⟨g1, g2⟩ := baseC_ok h1 ht hpos hb2
          obtain ⟨k1, k2⟩ := tailC_ok hpos h2 htl hts
          obtain ⟨hle, HS⟩ := H.freeze hn rfl rfl hp hw
          refine ⟨_, hle, rfl, HS, fun v hv => ?_⟩
          have hT : ((tcatE e1 t).den env).T = (e1.den env).T ++ (t.den env).T := tcatE_T _ _
          have hTl : ((tcatE e1 t).den env).T.length = (e1.den env).T.length + tail.length := by rw [hT, List.length_append, k1]
          have hL : ((rowEnd l tail).den env).I = (((tcatE e1 t).den env).T.length : Int) := by
            unfold rowEnd
            rw [addI_I, g1, hTl]
            show _ + ((tail.length : Nat) : Int) = _
            omega
          simp only [SV.Rel] at hv
          obtain ⟨q, A, hq, rfl, hA1, hA2, hle2, _⟩ := hv
          rw [hp] at hq; injection hq with hq; subst hq
          rw [hL] at hle2 ⊢
          have hz0 : ((E.il 0).den env).I.toNat = 0 := rfl
          rw [hz0] at hle2 hA2 ⊢
          have htn : (((tcatE e1 t).den env).T.length : Int).toNat = ((tcatE e1 t).den env).T.length := Int.toNat_natCast _
          rw [htn] at hle2 ⊢
          simp only [SV.Rel, DK.Rel]
          refine ⟨A, p.cap - 0, rfl, by omega, fun h0 => ?_⟩
          have hA := hA2 (by omega)
          rw [hpb, Nat.zero_mul, Nat.zero_add] at hA
          refine ⟨p.block, 0, hA, fun i hi => ?_⟩
          have hcellV : ∀ j v, (base ++ tl)[j]? = some v → fzcell (ρ.frz p.block (.cells (base ++ tl ++ rest).toArray T (0, 0))).fz p.block j = some v := by
            intro j v hj
            show (match (if p.block = p.block then some (Obj.cells (base ++ tl ++ rest).toArray T (0, 0)) else ρ.fz p.block) with | some (.cells c _ _) => c[j]? | _ => none) = some v
            rw [if_pos rfl]
            show (base ++ tl ++ rest).toArray[j]? = some v
            rw [List.getElem?_toArray, List.getElem?_append_left (List.getElem?_eq_some_iff.1 hj).1]
            exact hj
          by_cases hib : i < (e1.den env).T.length
          · have e4 : (fun j => ((tcatE e1 t).den env).at i j) = fun j => (e1.den env).at i j := by
              funext j
              unfold Dv.at
              rw [hT, List.getElem?_append_left hib]
            rw [e4]
            refine DKs.Rel.mono hle.fz (fun j v hj => ?_) (g2 i hib)
            refine hcellV _ v ?_
            rw [Nat.zero_add, List.getElem?_append_left (List.getElem?_eq_some_iff.1 hj).1]
            exact hj
          · obtain ⟨m, rfl⟩ : ∃ m, i = (e1.den env).T.length + m := ⟨i - (e1.den env).T.length, by omega⟩
            have e4 : (fun j => ((tcatE e1 t).den env).at ((e1.den env).T.length + m) j) = fun j => (t.den env).at m j := by
              funext j
              unfold Dv.at
              rw [hT, List.getElem?_append_right (by omega), Nat.add_sub_cancel_left]
            rw [e4]
            refine DKs.Rel.mono hle.fz (fun j v hj => ?_) (k2 m (by omega))
            refine hcellV _ v ?_
            have hbl : base.length = (e1.den env).T.length * ks'.len := by rw [hb1, g1, Int.toNat_natCast]
            rw [Nat.zero_add, Nat.add_mul, List.getElem?_append_right (by rw [hbl]; omega), hbl]
            rw [show (e1.den env).T.length * ks'.len + m * ks'.len + j - (e1.den env).T.length * ks'.len = m * ks'.len + j by omega]
            exact hj
        · cases hf
    · cases hf
  | _ => cases hf
end

/-! ### all that stood for it -/
structure FzS where
  n : Nat
  sz : Nat
  len : E
  ks : DKs
  e : E
mutual
def SV.frz (F : FzS) : SV → SV
  | .sl m s lo l => cond (Nat.beq m F.n && Nat.beq s F.sz && lo.same (.il 0) && l.same F.len) (.dsl F.ks F.e) (.sl m s lo l)
  | .agg l => .agg (SV.frzs F l)
  | .tup l => .tup (SV.frzs F l)
  | .ifc t x => .ifc t (SV.frz F x)
  | x => x
def SV.frzs (F : FzS) : List SV → List SV
  | [] => []
  | x :: l => SV.frz F x :: SV.frzs F l
end
theorem SV.frzs_length {F : FzS} : ∀ {l : List SV}, (SV.frzs F l).length = l.length
  | [] => rfl
  | x :: l => by simp [SV.frzs, SV.frzs_length (l := l)]
theorem SV.frzs_append {F : FzS} : ∀ {l m : List SV}, SV.frzs F (l ++ m) = SV.frzs F l ++ SV.frzs F m
  | [], _ => rfl
  | x :: l, m => by simp [SV.frzs, SV.frzs_append (l := l)]
theorem SV.frzs_flatten {F : FzS} : ∀ {l : List (List SV)}, SV.frzs F l.flatten = (l.map (SV.frzs F)).flatten
  | [] => rfl
  | x :: l => by simp [SV.frzs_append, SV.frzs_flatten (l := l)]
section
variable {env : Env} {ρ ρ' : PMap} {F : FzS}
mutual
theorem SV.frz_ok (hle : ρ.le ρ') (hv : ∀ v, (SV.sl F.n F.sz (.il 0) F.len).Rel env ρ v → (SV.dsl F.ks F.e).Rel env ρ' v) : ∀ {x : SV} {v : Value}, x.Rel env ρ v → (x.frz F).Rel env ρ' v := by
  intro x v hx
  cases x with
  | sl m s lo l =>
    unfold SV.frz
    cases hc : (Nat.beq m F.n && Nat.beq s F.sz && lo.same (.il 0) && l.same F.len) with
    | false => exact hx.mono hle
    | true =>
      simp only [Bool.and_eq_true] at hc
      obtain ⟨⟨⟨h1, h2⟩, h3⟩, h4⟩ := hc
      rw [Nat.eq_of_beq_eq_true h1, Nat.eq_of_beq_eq_true h2, E.same_eq h3, E.same_eq h4] at hx
      exact hv v hx
  | agg l =>
    simp only [SV.frz, SV.Rel] at hx ⊢
    obtain ⟨y, rfl, h⟩ := hx
    exact ⟨y, rfl, SV.frzs_ok hle hv h⟩
  | tup l =>
    simp only [SV.frz, SV.Rel] at hx ⊢
    obtain ⟨y, rfl, h⟩ := hx
    exact ⟨y, rfl, SV.frzs_ok hle hv h⟩
  | ifc t x =>
    simp only [SV.frz, SV.Rel] at hx ⊢
    obtain ⟨y, rfl, h⟩ := hx
    exact ⟨y, rfl, SV.frz_ok hle hv h⟩
  | _ => exact hx.mono hle
theorem SV.frzs_ok (hle : ρ.le ρ') (hv : ∀ v, (SV.sl F.n F.sz (.il 0) F.len).Rel env ρ v → (SV.dsl F.ks F.e).Rel env ρ' v) : ∀ {l : List SV} {vs : List Value}, SV.Rels env ρ l vs → SV.Rels env ρ' (SV.frzs F l) vs := by
  intro l vs h
  cases l with
  | nil => exact h
  | cons x l =>
    simp only [SV.frzs, SV.Rels] at h ⊢
    obtain ⟨v, q, rfl, h1, h2⟩ := h
    exact ⟨v, q, rfl, SV.frz_ok hle hv h1, SV.frzs_ok hle hv h2⟩
end
def SObj.frz (F : FzS) : SObj → SObj
  | .cells T cs => .cells T (SV.frzs F cs)
  | .row T sz len cols tail => .row T sz len cols (tail.map (SV.frzs F))
  | o => o
theorem SObj.frz_owner {o : SObj} : (o.frz F).owner = o.owner := by cases o <;> rfl
theorem SObj.frz_ok {w0 : Anchor} {w : World} {m : Nat} {o : SObj} (hle : ρ.le ρ') (hpl : ρ'.pl = ρ.pl) (hv : ∀ v, (SV.sl F.n F.sz (.il 0) F.len).Rel env ρ v → (SV.dsl F.ks F.e).Rel env ρ' v) (h : o.Rel env w0 ρ m w) : (o.frz F).Rel env w0 ρ' m w := by
  cases o with
  | cells T cs =>
    obtain ⟨p, vs, h1, h2, h3, h4, h5, h6⟩ := h
    exact ⟨p, vs, hle _ _ h1, h2, h3, h4, SV.frzs_ok hle hv h5, h6⟩
  | row T sz len cols tail =>
    obtain ⟨p, vs, rest, h1, h2, h3, h4, ⟨b, t, k1, k2, k3, k4, k5, k6⟩, h6, h7⟩ := h
    refine ⟨p, vs, rest, hle _ _ h1, h2, h3, h4, ⟨b, t, k1, k2, fun i hi j col hj => ?_, ?_, fun u hu => ?_, k6⟩, h6, h7⟩
    · obtain ⟨v, g1, g2⟩ := k3 i hi j col hj
      exact ⟨v, g1, g2.mono hle⟩
    · rw [← SV.frzs_flatten]; exact SV.frzs_ok hle hv k4
    · obtain ⟨y, hy, rfl⟩ := List.mem_map.1 hu
      rw [SV.frzs_length]; exact k5 y hy
  | _ => exact h.keep hle (fun _ _ _ => rfl) (fun h0 _ => by rw [show ρ' m = ρ m from congrFun hpl m]; exact h0)

def frzHeap (F : FzS) (h : CHeap) : CHeap := h.map fun x => (x.1, cond (Nat.beq x.1 F.n) .gone (x.2.frz F))
theorem cget_frz {h : CHeap} {m : Nat} {o : SObj} (hm : cget (frzHeap F h) m = some o) : (m = F.n ∧ o = .gone) ∨ (m ≠ F.n ∧ ∃ o0, cget h m = some o0 ∧ o = o0.frz F) := by
  induction h with
  | nil => cases hm
  | cons x r ih =>
    obtain ⟨k, y⟩ := x
    simp only [frzHeap, List.map_cons, cget] at hm ⊢
    cases hb : Nat.beq k m with
    | false => rw [hb] at hm; exact ih hm
    | true =>
      rw [hb] at hm
      obtain rfl := Nat.eq_of_beq_eq_true hb
      simp only [cond_true, Option.some.injEq] at hm
      cases hk : Nat.beq k F.n with
      | true => rw [hk] at hm; exact .inl ⟨Nat.eq_of_beq_eq_true hk, hm.symm⟩
      | false =>
        rw [hk] at hm
        exact .inr ⟨fun e => by (rw [e, Nat.beq_refl] at hk; cases hk), y, by simp, hm.symm⟩
def Leaf.frz1 (P : Program) (n : Nat) (q : Leaf) : Option (Leaf × List Ob) :=
  match cget q.h n with
  | some o =>
    match frzO P o with
    | some (ks, sz, e, len, obs) => cond q.fr.df.isEmpty (some ({ q with fr := ⟨SV.frzs ⟨n, sz, len, ks, e⟩ q.fr.sl, []⟩, h := frzHeap ⟨n, sz, len, ks, e⟩ q.h }, obs)) none
    | none => none
  | none => none
theorem Leaf.frz1_ok {P : Program} {n : Nat} {q q' : Leaf} {obs : List Ob} (h : q.frz1 P n = some (q', obs)) (ht : AllT env obs) : Thaw env q q' := by
  unfold Leaf.frz1 at h
  split at h
  · rename_i o ho
    split at h
    · rename_i ks sz e len obs' hf
      cases hd : q.fr.df.isEmpty with
      | false => rw [hd] at h; cases h
      | true =>
        rw [hd] at h
        simp only [cond_true, Option.some.injEq, Prod.mk.injEq] at h
        obtain ⟨rfl, rfl⟩ := h
        refine ⟨rfl, SV.frzs_length, fun A ρ a w hs => ?_⟩
        obtain ⟨ρ', hle, hpl, HS, hv⟩ := hs.hs.frzO (n := n) ho hf ht
        have hdf : q.fr.df = [] := by simpa using hd
        refine ⟨ρ', hle, ⟨?_, SV.frzs_ok hle hv hs.sl, by have := hs.df; rw [hdf] at this; rw [this.nil_eq]; exact .nil, fun m p hp => hs.nx m p (by rw [← show ρ' m = ρ m from congrFun hpl m]; exact hp)⟩⟩
        have back : ∀ m o', hget (cden (frzHeap ⟨n, sz, len, ks, e⟩ q.h)) m = some o' → (m = n ∧ o' = .gone) ∨ (m ≠ n ∧ ∃ o0, hget (cden q.h) m = some o0 ∧ o' = o0.frz ⟨n, sz, len, ks, e⟩) := fun m o' hm => cget_frz hm
        have back2 : ∀ m o', hget (cden (frzHeap ⟨n, sz, len, ks, e⟩ q.h)) m = some o' → o'.owner = true → ∃ o0, hget (hput (cden q.h) n .gone) m = some o0 ∧ o0.owner = true ∧ (o'.isAbs = true → o0 = o') := fun m o' hm ho' => by
          rcases back m o' hm with ⟨_, rfl⟩ | ⟨hne, o0, h0, rfl⟩
          · cases ho'
          · refine ⟨o0, by rw [hget_hput, if_neg hne]; exact h0, by rw [SObj.frz_owner] at ho'; exact ho', fun h => by cases o0 <;> first | rfl | (cases h; done)⟩
        refine ⟨HS.below, fun m o' hm => ?_, fun m k x y p p' hm hk hx hy hp hp' he => ?_, ?_, HS.fz.at_, fun b x m o' p hb hm ho' hp => ?_, HS.fz.old⟩
        · rcases back m o' hm with ⟨_, rfl⟩ | ⟨hne, o0, h0, rfl⟩
          · trivial
          · exact SObj.frz_ok hle hpl hv (hs.hs.objs m o0 h0)
        · obtain ⟨x0, a1, a2, _⟩ := back2 m x hm hx
          obtain ⟨y0, b1, b2, _⟩ := back2 k y hk hy
          exact HS.inj m k x0 y0 p p' a1 b1 a2 b2 hp hp' he
        · obtain ⟨μ, hA⟩ := HS.abs
          have ab : ∀ {m k st refs}, hget (cden (frzHeap ⟨n, sz, len, ks, e⟩ q.h)) m = some (.abs k st refs) → hget (hput (cden q.h) n .gone) m = some (.abs k st refs) := fun hm => by
            obtain ⟨o0, a1, a2, a3⟩ := back2 _ _ hm rfl
            rw [a3 rfl] at a1; exact a1
          refine ⟨μ, fun m k st refs hm => hA.holds m k st refs (ab hm), fun m k st refs c hm => hA.own m k st refs c (ab hm), fun m k st refs c m' o' p hm hc hm' ho' hp => ?_, fun m k st refs m' k' st' refs' c hm hm' => hA.apart2 m k st refs m' k' st' refs' c (ab hm) (ab hm'), fun m k st refs c hm => hA.fz m k st refs c (ab hm)⟩
          obtain ⟨y0, b1, b2, _⟩ := back2 m' o' hm' ho'
          exact hA.apart m k st refs c m' y0 p (ab hm) hc b1 b2 hp
        · obtain ⟨y0, b1, b2, _⟩ := back2 m o' hm ho'
          exact HS.fz.free b x m y0 p hb b1 b2 hp
    · cases h
  · cases h

/-! ### which ones -/
mutual
def SV.sls : SV → List Nat
  | .sl n _ _ _ => [n]
  | .agg l => SV.slsL l
  | .tup l => SV.slsL l
  | .ifc _ x => SV.sls x
  | _ => []
def SV.slsL : List SV → List Nat
  | [] => []
  | x :: l => SV.sls x ++ SV.slsL l
end
def frzMany (g : Nat → Leaf → Option (Leaf × List Ob)) : List Nat → Leaf → Option (Leaf × List Ob)
  | [], q => some (q, [])
  | n :: r, q =>
    match g n q with
    | some (q1, o1) =>
      match frzMany g r q1 with
      | some (q2, o2) => some (q2, o1 ++ o2)
      | none => none
    | none => none
theorem frzMany_ok {g : Nat → Leaf → Option (Leaf × List Ob)} (hg : ∀ n q q' obs, g n q = some (q', obs) → AllT env obs → Thaw env q q') : ∀ {l : List Nat} {q q' : Leaf} {obs : List Ob}, frzMany g l q = some (q', obs) → AllT env obs → Thaw env q q'
  | [], q, q', obs, h, _ => by simp only [frzMany, Option.some.injEq, Prod.mk.injEq] at h; obtain ⟨rfl, _⟩ := h; exact Thaw.refl q
  | n :: r, q, q', obs, h, ht => by
    simp only [frzMany] at h
    split at h
    · rename_i q1 o1 h1
      split at h
      · rename_i q2 o2 h2
        simp only [Option.some.injEq, Prod.mk.injEq] at h
        obtain ⟨rfl, rfl⟩ := h
        obtain ⟨t1, t2⟩ := allT_append.1 ht
        exact (hg n q q1 o1 h1 t1).trans (frzMany_ok hg h2 t2)
      · cases h
    · cases h
/-- Slices within first. -/
def Leaf.frzN (P : Program) : Nat → Nat → Leaf → Option (Leaf × List Ob)
  | 0, _, _ => none
  | d + 1, n, q =>
    match cget q.h n with
    | some (.row _ _ _ _ tail) =>
      match frzMany (Leaf.frzN P d) (SV.slsL tail.flatten) q with
      | some (q1, o1) =>
        match q1.frz1 P n with
        | some (q2, o2) => some (q2, o1 ++ o2)
        | none => none
      | none => none
    | _ => none
theorem Leaf.frzN_ok {P : Program} : ∀ {d n : Nat} {q q' : Leaf} {obs : List Ob}, q.frzN P d n = some (q', obs) → AllT env obs → Thaw env q q'
  | 0, _, _, _, _, h, _ => by cases h
  | d + 1, n, q, q', obs, h, ht => by
    simp only [Leaf.frzN] at h
    split at h
    · split at h
      · rename_i q1 o1 h1
        split at h
        · rename_i q2 o2 h2
          simp only [Option.some.injEq, Prod.mk.injEq] at h
          obtain ⟨rfl, rfl⟩ := h
          obtain ⟨t1, t2⟩ := allT_append.1 ht
          exact (frzMany_ok (fun n q q' obs => Leaf.frzN_ok) h1 t1).trans (Leaf.frz1_ok h2 t2)
        · cases h
      · cases h
    · cases h
end
mutual
/-- Where data is asked for, and a row of the call's own stands. -/
def wantV : SV → SV → List Nat
  | .sl n _ _ _, .dsl _ _ => [n]
  | .agg l, .agg m => wantL l m
  | .tup l, .tup m => wantL l m
  | .ifc _ x, .ifc _ y => wantV x y
  | _, _ => []
def wantL : List SV → List SV → List Nat
  | x :: l, y :: m => wantV x y ++ wantL l m
  | _, _ => []
end
def wantR : List SV → List Col → List Nat
  | .sl n _ _ _ :: l, .dsl _ _ :: m => n :: wantR l m
  | .sl n _ _ _ :: l, .tc (.sl _) _ _ :: m => n :: wantR l m
  | _ :: l, _ :: m => wantR l m
  | _, _ => []
def wantT (cols : List Col) : List (List SV) → List Nat
  | [] => []
  | t :: r => wantR t cols ++ wantT cols r
def wantO : SObj → SObj → List Nat
  | .cells _ l, .cells _ m => wantL l m
  | .row _ _ _ _ tail, .row _ _ _ cols _ => wantT cols tail
  | _, _ => []
def wantOv (sl : List SV) : List (Nat × SV) → List Nat
  | [] => []
  | (j, y) :: r => (match nth sl j with | some x => wantV x y | none => []) ++ wantOv sl r
def wantHp (σ : Nat → Nat) (hL : CHeap) : CHeap → List Nat
  | [] => []
  | (n, o') :: r => (match cget hL (σ n) with | some o => wantO o o' | none => []) ++ wantHp σ hL r
def dedupN : List Nat → List Nat
  | [] => []
  | n :: r => cond (inL n r) (dedupN r) (n :: dedupN r)
def Leaf.thawFor (P : Program) (q : Leaf) (ov : List (Nat × SV)) (hp : CHeap) (l : List (Nat × Nat)) : Option (Leaf × List Ob) :=
  frzMany (fun n q => q.frzN P 6 n) (dedupN (wantOv q.fr.sl ov ++ wantHp (sig l q.nx) q.h hp)) q
theorem Leaf.thawFor_ok {P : Program} {env : Env} {q q' : Leaf} {ov : List (Nat × SV)} {hp : CHeap} {l : List (Nat × Nat)} {obs : List Ob} (h : q.thawFor P ov hp l = some (q', obs)) (ht : AllT env obs) : Thaw env q q' :=
  frzMany_ok (fun n q q' obs => Leaf.frzN_ok) h ht
end Go.Sx
