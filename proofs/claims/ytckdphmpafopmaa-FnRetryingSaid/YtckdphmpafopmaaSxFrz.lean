/-
  SX, PART 26b: rows that are finished: from then on they are data that never changes.
-/
import Derived.Test.YtckdphmpafopmaaSxLoopO
namespace Go.Sx
open Go.RowKit
set_option linter.unusedVariables false
set_option linter.unusedSimpArgs false

/-! ### a row is finished -/
def frzG (kd : TypeId → Option DKs) : SObj → Option (DKs × Nat × E × E × List Ob)
  | .row T sz len cols tail =>
    match kd T with
    | some ks => cond (Nat.beq ks.len sz && Nat.blt 0 sz)
      (match baseC ks len cols, tailC ks tail with
      | some (e, obs), some t => some (ks, sz, tcatE e t, rowEnd len tail, obs)
      | _, _ => none) none
    | none => none
  | _ => none

def frzO (P : Program) : SObj → Option (DKs × Nat × E × E × List Ob) := frzG (dksT P)
def PMap.frz (ρ : PMap) (b : Nat) (x : Obj) : PMap := ⟨ρ.pl, fun c => if c = b then some x else ρ.fz c⟩

section
variable {P : Program} {env : Env} {w0 : Anchor} {ρ ρ' : PMap} {h : Heap} {w : World}
theorem HSat.freeze (H : HSat env w0 ρ h w) {n : Nat} {o : SObj} {p : Pl} {x : Obj} (hn : hget h n = some o) (ho : o.owner = true) (hna : o.isAbs = false) (hp : ρ n = some p) (hx : w.heap[p.block]? = some x) :
    ρ.le (ρ.frz p.block x) ∧ HSat env w0 (ρ.frz p.block x) (hput h n .gone) w := by
  have hnone : ρ.fz p.block = none := by
    cases hz : ρ.fz p.block with
    | none => rfl
    | some y => exact absurd rfl (H.fz.free _ y n o p hz hn ho hp)
  have hle : ρ.le (ρ.frz p.block x) := ⟨fun _ _ h => h, fun b y hb => by
    show (if b = p.block then some x else ρ.fz b) = some y
    by_cases e : b = p.block
    · rw [e, hnone] at hb; cases hb
    · rw [if_neg e]; exact hb⟩
  have sub : ∀ m y, hget (hput h n .gone) m = some y → y.owner = true → m ≠ n ∧ hget h m = some y := fun m y hm hy => by
    rw [hget_hput] at hm
    by_cases e : m = n
    · subst e; simp at hm; subst hm; cases hy
    · rw [if_neg e] at hm; exact ⟨e, hm⟩
  have hF := H.forget n
  refine ⟨hle, ⟨hF.below, fun m y hm => (hF.objs m y hm).keep hle (fun _ _ _ => rfl) (fun h0 _ => h0), hF.inj, ?_, ⟨fun b y hb => ?_, fun b y m o' q hb hm ho' hq => ?_, fun b y hb hk => ?_⟩⟩⟩
  · obtain ⟨μ, hA⟩ := H.abs
    refine ⟨μ, fun m k st refs hm => ?_, fun m k st refs c hm hc => hA.own m k st refs c (sub m _ hm rfl).2 hc, fun m k st refs c m' o' q hm hc hm' ho' hq => hA.apart m k st refs c m' o' q (sub m _ hm rfl).2 hc (sub m' _ hm' ho').2 ho' hq,
      fun m k st refs m' k' st' refs' c hm hm' hc hc' => hA.apart2 m k st refs m' k' st' refs' c (sub m _ hm rfl).2 (sub m' _ hm' rfl).2 hc hc', fun m k st refs c hm hc => ?_⟩
    · obtain ⟨p', qs, h1, h2, h3⟩ := hA.holds m k st refs (sub m _ hm rfl).2
      exact ⟨p', qs, h1, refPl_mono hle h2, h3⟩
    · show (if c = p.block then some x else ρ.fz c) = none
      have := hA.apart m k st refs c n o p (sub m _ hm rfl).2 hc hn ho hp
      rw [if_neg (fun e => this e.symm)]
      exact hA.fz m k st refs c (sub m _ hm rfl).2 hc
  · have hb : (if b = p.block then some x else ρ.fz b) = some y := hb
    by_cases e : b = p.block
    · rw [if_pos e] at hb; injection hb with hb; subst hb; rw [e]; exact hx
    · rw [if_neg e] at hb; exact H.fz.at_ b y hb
  · have hb : (if b = p.block then some x else ρ.fz b) = some y := hb
    obtain ⟨hne, hm2⟩ := sub m o' hm ho'
    by_cases e : b = p.block
    · intro he
      exact hne (H.inj m n o' o q p hm2 hn ho' ho hq hp (he.trans e))
    · rw [if_neg e] at hb; exact H.fz.free b y m o' q hb hm2 ho' hq
  · have hb : (if b = p.block then some x else ρ.fz b) = some y := hb
    by_cases e : b = p.block
    · obtain ⟨q, bb, hq, hqK, _⟩ := (H.objs n o hn).place ho
      rw [hp] at hq; injection hq with hq; subst hq
      rw [e] at hk
      exact absurd hk hqK
    · rw [if_neg e] at hb; exact H.fz.old b y hb hk

/-- A row's object becomes data: whatever slice stood for all of it says the tree. -/
theorem HSat.frzG {kd : TypeId → Option DKs} (H : HSat env w0 ρ h w) {n sz : Nat} {o : SObj} {ks : DKs} {e len : E} {obs : List Ob} (hn : hget h n = some o) (hf : Go.Sx.frzG kd o = some (ks, sz, e, len, obs)) (ht : AllT env obs) :
    ∃ ρ', ρ.le ρ' ∧ ρ'.pl = ρ.pl ∧ HSat env w0 ρ' (hput h n .gone) w ∧ ∀ v, (SV.sl n sz (.il 0) len).Rel env ρ v → (SV.dsl ks e).Rel env ρ' v := by
  cases o with
  | row T sz' l cols tail =>
    simp only [Go.Sx.frzG] at hf
    split at hf
    · rename_i ks' hks
      cases hc : (Nat.beq ks'.len sz' && Nat.blt 0 sz') with
      | false => rw [hc] at hf; cases hf
      | true =>
        rw [hc] at hf
        simp only [cond_true] at hf
        split at hf
        · rename_i e1 obs1 t h1 h2
          simp only [Option.some.injEq, Prod.mk.injEq] at hf
          obtain ⟨rfl, rfl, rfl, rfl, rfl⟩ := hf
          simp only [Bool.and_eq_true, Nat.beq_eq] at hc
          obtain ⟨hsz, hpos⟩ := hc
          unfold Nat.blt at hpos
          have hpos : 0 < sz' := Nat.le_of_ble_eq_true hpos
          obtain ⟨p, vs, rest, hp, hpK, hpb, hpn, hrow, hlen, hw⟩ := H.objs n _ hn
          obtain ⟨base, tl, rfl, hb1, hb2, htl, hts, hcl⟩ := hrow
          rw [← hsz] at hb1 hb2 hts hlen hpos
          obtain ⟨g1, g2⟩ := baseC_ok h1 ht hpos hb2
          obtain ⟨k1, k2⟩ := tailC_ok hpos h2 htl hts
          obtain ⟨hle, HS⟩ := H.freeze hn rfl rfl hp hw
          refine ⟨_, hle, rfl, HS, fun v hv => ?_⟩
          have hT : ((tcatE e1 t).den env).T = (e1.den env).T ++ (t.den env).T := tcatE_T _ _
          have hTl : ((tcatE e1 t).den env).T.length = (e1.den env).T.length + tail.length := by rw [hT, List.length_append, k1]
          have hL : ((rowEnd l tail).den env).I = (((tcatE e1 t).den env).T.length : Int) := by
            unfold rowEnd
            rw [addI_I, g1, hTl]
            show _ + ((tail.length : Nat) : Int) = _
            omega
          simp only [SV.Rel] at hv
          obtain ⟨q, A, hq, rfl, hA1, hA2, hle2, _⟩ := hv
          rw [hp] at hq; injection hq with hq; subst hq
          rw [hL] at hle2 ⊢
          have hz0 : ((E.il 0).den env).I.toNat = 0 := rfl
          rw [hz0] at hle2 hA2 ⊢
          have htn : (((tcatE e1 t).den env).T.length : Int).toNat = ((tcatE e1 t).den env).T.length := Int.toNat_natCast _
          rw [htn] at hle2 ⊢
          simp only [SV.Rel, DK.Rel]
          refine ⟨A, p.cap - 0, rfl, by omega, fun h0 => ?_⟩
          have hA := hA2 (by omega)
          rw [hpb, Nat.zero_mul, Nat.zero_add] at hA
          refine ⟨p.block, 0, hA, fun i hi => ?_⟩
          have hcellV : ∀ j v, (base ++ tl)[j]? = some v → fzcell (ρ.frz p.block (.cells (base ++ tl ++ rest).toArray T (0, 0))).fz p.block j = some v := by
            intro j v hj
            show (match (if p.block = p.block then some (Obj.cells (base ++ tl ++ rest).toArray T (0, 0)) else ρ.fz p.block) with | some (.cells c _ _) => c[j]? | _ => none) = some v
            rw [if_pos rfl]
            show (base ++ tl ++ rest).toArray[j]? = some v
            rw [List.getElem?_toArray, List.getElem?_append_left (List.getElem?_eq_some_iff.1 hj).1]
            exact hj
          by_cases hib : i < (e1.den env).T.length
          · have e4 : (fun j => ((tcatE e1 t).den env).at i j) = fun j => (e1.den env).at i j := by
              funext j
              unfold Dv.at
              rw [hT, List.getElem?_append_left hib]
            rw [e4]
            refine DKs.Rel.mono hle.fz (fun j v hj => ?_) (g2 i hib)
            refine hcellV _ v ?_
            rw [Nat.zero_add, List.getElem?_append_left (List.getElem?_eq_some_iff.1 hj).1]
            exact hj
          · obtain ⟨m, rfl⟩ : ∃ m, i = (e1.den env).T.length + m := ⟨i - (e1.den env).T.length, by omega⟩
            have e4 : (fun j => ((tcatE e1 t).den env).at ((e1.den env).T.length + m) j) = fun j => (t.den env).at m j := by
              funext j
              unfold Dv.at
              rw [hT, List.getElem?_append_right (by omega), Nat.add_sub_cancel_left]
            rw [e4]
            refine DKs.Rel.mono hle.fz (fun j v hj => ?_) (k2 m (by omega))
            refine hcellV _ v ?_
            have hbl : base.length = (e1.den env).T.length * ks'.len := by rw [hb1, g1, Int.toNat_natCast]
            rw [Nat.zero_add, Nat.add_mul, List.getElem?_append_right (by rw [hbl]; omega), hbl]
            rw [show (e1.den env).T.length * ks'.len + m * ks'.len + j - (e1.den env).T.length * ks'.len = m * ks'.len + j by omega]
            exact hj
        · cases hf
    · cases hf
  | _ => cases hf
end

/-! ### all that stood for it -/
structure FzS where
  n : Nat
  sz : Nat
  len : E
  ks : DKs
  e : E
mutual
def SV.frz (F : FzS) : SV → SV
  | .sl m s lo l => cond (Nat.beq m F.n && Nat.beq s F.sz && lo.same (.il 0) && l.same F.len) (.dsl F.ks F.e) (.sl m s lo l)
  | .agg l => .agg (SV.frzs F l)
  | .tup l => .tup (SV.frzs F l)
  | .ifc t x => .ifc t (SV.frz F x)
  | x => x
def SV.frzs (F : FzS) : List SV → List SV
  | [] => []
  | x :: l => SV.frz F x :: SV.frzs F l
end
theorem SV.frzs_length {F : FzS} : ∀ {l : List SV}, (SV.frzs F l).length = l.length
  | [] => rfl
  | x :: l => by simp [SV.frzs, SV.frzs_length (l := l)]
theorem SV.frzs_append {F : FzS} : ∀ {l m : List SV}, SV.frzs F (l ++ m) = SV.frzs F l ++ SV.frzs F m
  | [], _ => rfl
  | x :: l, m => by simp [SV.frzs, SV.frzs_append (l := l)]
theorem SV.frzs_flatten {F : FzS} : ∀ {l : List (List SV)}, SV.frzs F l.flatten = (l.map (SV.frzs F)).flatten
  | [] => rfl
  | x :: l => by simp [SV.frzs_append, SV.frzs_flatten (l := l)]
section
variable {env : Env} {ρ ρ' : PMap} {F : FzS}
mutual
theorem SV.frz_ok (hle : ρ.le ρ') (hv : ∀ v, (SV.sl F.n F.sz (.il 0) F.len).Rel env ρ v → (SV.dsl F.ks F.e).Rel env ρ' v) : ∀ {x : SV} {v : Value}, x.Rel env ρ v → (x.frz F).Rel env ρ' v := by
  intro x v hx
  cases x with
  | sl m s lo l =>
    unfold SV.frz
    cases hc : (Nat.beq m F.n && Nat.beq s F.sz && lo.same (.il 0) && l.same F.len) with
    | false => exact hx.mono hle
    | true =>
      simp only [Bool.and_eq_true] at hc
      obtain ⟨⟨⟨h1, h2⟩, h3⟩, h4⟩ := hc
      rw [Nat.eq_of_beq_eq_true h1, Nat.eq_of_beq_eq_true h2, E.same_eq h3, E.same_eq h4] at hx
      exact hv v hx
  | agg l =>
    simp only [SV.frz, SV.Rel] at hx ⊢
    obtain ⟨y, rfl, h⟩ := hx
    exact ⟨y, rfl, SV.frzs_ok hle hv h⟩
  | tup l =>
    simp only [SV.frz, SV.Rel] at hx ⊢
    obtain ⟨y, rfl, h⟩ := hx
    exact ⟨y, rfl, SV.frzs_ok hle hv h⟩
  | ifc t x =>
    simp only [SV.frz, SV.Rel] at hx ⊢
    obtain ⟨y, rfl, h⟩ := hx
    exact ⟨y, rfl, SV.frz_ok hle hv h⟩
  | _ => exact hx.mono hle
theorem SV.frzs_ok (hle : ρ.le ρ') (hv : ∀ v, (SV.sl F.n F.sz (.il 0) F.len).Rel env ρ v → (SV.dsl F.ks F.e).Rel env ρ' v) : ∀ {l : List SV} {vs : List Value}, SV.Rels env ρ l vs → SV.Rels env ρ' (SV.frzs F l) vs := by
  intro l vs h
  cases l with
  | nil => exact h
  | cons x l =>
    simp only [SV.frzs, SV.Rels] at h ⊢
    obtain ⟨v, q, rfl, h1, h2⟩ := h
    exact ⟨v, q, rfl, SV.frz_ok hle hv h1, SV.frzs_ok hle hv h2⟩
end
def SObj.frz (F : FzS) : SObj → SObj
  | .cells T cs => .cells T (SV.frzs F cs)
  | .row T sz len cols tail => .row T sz len cols (tail.map (SV.frzs F))
  | o => o
theorem SObj.frz_owner {o : SObj} : (o.frz F).owner = o.owner := by cases o <;> rfl
theorem SObj.frz_ok {w0 : Anchor} {w : World} {m : Nat} {o : SObj} (hle : ρ.le ρ') (hpl : ρ'.pl = ρ.pl) (hv : ∀ v, (SV.sl F.n F.sz (.il 0) F.len).Rel env ρ v → (SV.dsl F.ks F.e).Rel env ρ' v) (h : o.Rel env w0 ρ m w) : (o.frz F).Rel env w0 ρ' m w := by
  cases o with
  | cells T cs =>
    obtain ⟨p, vs, h1, h2, h3, h4, h5, h6⟩ := h
    exact ⟨p, vs, hle _ _ h1, h2, h3, h4, SV.frzs_ok hle hv h5, h6⟩
  | row T sz len cols tail =>
    obtain ⟨p, vs, rest, h1, h2, h3, h4, ⟨b, t, k1, k2, k3, k4, k5, k6⟩, h6, h7⟩ := h
    refine ⟨p, vs, rest, hle _ _ h1, h2, h3, h4, ⟨b, t, k1, k2, fun i hi j col hj => ?_, ?_, fun u hu => ?_, k6⟩, h6, h7⟩
    · obtain ⟨v, g1, g2⟩ := k3 i hi j col hj
      exact ⟨v, g1, g2.mono hle⟩
    · rw [← SV.frzs_flatten]; exact SV.frzs_ok hle hv k4
    · obtain ⟨y, hy, rfl⟩ := List.mem_map.1 hu
      rw [SV.frzs_length]; exact k5 y hy
  | _ => exact h.keep hle (fun _ _ _ => rfl) (fun h0 _ => by rw [show ρ' m = ρ m from congrFun hpl m]; exact h0)

def frzHeap (F : FzS) (h : CHeap) : CHeap := h.map fun x => (x.1, cond (Nat.beq x.1 F.n) .gone (x.2.frz F))
theorem cget_frz {h : CHeap} {m : Nat} {o : SObj} (hm : cget (frzHeap F h) m = some o) : (m = F.n ∧ o = .gone) ∨ (m ≠ F.n ∧ ∃ o0, cget h m = some o0 ∧ o = o0.frz F) := by
  induction h with
  | nil => cases hm
  | cons x r ih =>
    obtain ⟨k, y⟩ := x
    simp only [frzHeap, List.map_cons, cget] at hm ⊢
    cases hb : Nat.beq k m with
    | false => rw [hb] at hm; exact ih hm
    | true =>
      rw [hb] at hm
      obtain rfl := Nat.eq_of_beq_eq_true hb
      simp only [cond_true, Option.some.injEq] at hm
      cases hk : Nat.beq k F.n with
      | true => rw [hk] at hm; exact .inl ⟨Nat.eq_of_beq_eq_true hk, hm.symm⟩
      | false =>
        rw [hk] at hm
        exact .inr ⟨fun e => by (rw [e, Nat.beq_refl] at hk; cases hk), y, by simp, hm.symm⟩
def Leaf.frz1 (P : Program) (n : Nat) (q : Leaf) : Option (Leaf × List Ob) :=
  match cget q.h n with
  | some o =>
    match frzO P o with
    | some (ks, sz, e, len, obs) => cond q.fr.df.isEmpty (some ({ q with fr := ⟨SV.frzs ⟨n, sz, len, ks, e⟩ q.fr.sl, []⟩, h := frzHeap ⟨n, sz, len, ks, e⟩ q.h }, obs)) none
    | none => none
  | none => none
theorem Leaf.frz1_ok {P : Program} {n : Nat} {q q' : Leaf} {obs : List Ob} (h : q.frz1 P n = some (q', obs)) (ht : AllT env obs) : Thaw env q q' := by
  unfold Leaf.frz1 at h
  split at h
  · rename_i o ho
    split at h
    · rename_i ks sz e len obs' hf
      cases hd : q.fr.df.isEmpty with
      | false => rw [hd] at h; cases h
      | true =>
        rw [hd] at h
        simp only [cond_true, Option.some.injEq, Prod.mk.injEq] at h
        obtain ⟨rfl, rfl⟩ := h
        refine ⟨rfl, SV.frzs_length, fun A ρ a w hs => ?_⟩
        obtain ⟨ρ', hle, hpl, HS, hv⟩ := hs.hs.frzG (n := n) ho hf ht
        have hdf : q.fr.df = [] := by simpa using hd
        refine ⟨ρ', hle, ⟨?_, SV.frzs_ok hle hv hs.sl, by have := hs.df; rw [hdf] at this; rw [this.nil_eq]; exact .nil, fun m p hp => hs.nx m p (by rw [← show ρ' m = ρ m from congrFun hpl m]; exact hp)⟩⟩
        have back : ∀ m o', hget (cden (frzHeap ⟨n, sz, len, ks, e⟩ q.h)) m = some o' → (m = n ∧ o' = .gone) ∨ (m ≠ n ∧ ∃ o0, hget (cden q.h) m = some o0 ∧ o' = o0.frz ⟨n, sz, len, ks, e⟩) := fun m o' hm => cget_frz hm
        have back2 : ∀ m o', hget (cden (frzHeap ⟨n, sz, len, ks, e⟩ q.h)) m = some o' → o'.owner = true → ∃ o0, hget (hput (cden q.h) n .gone) m = some o0 ∧ o0.owner = true ∧ (o'.isAbs = true → o0 = o') := fun m o' hm ho' => by
          rcases back m o' hm with ⟨_, rfl⟩ | ⟨hne, o0, h0, rfl⟩
          · cases ho'
          · refine ⟨o0, by rw [hget_hput, if_neg hne]; exact h0, by rw [SObj.frz_owner] at ho'; exact ho', fun h => by cases o0 <;> first | rfl | (cases h; done)⟩
        refine ⟨HS.below, fun m o' hm => ?_, fun m k x y p p' hm hk hx hy hp hp' he => ?_, ?_, HS.fz.at_, fun b x m o' p hb hm ho' hp => ?_, HS.fz.old⟩
        · rcases back m o' hm with ⟨_, rfl⟩ | ⟨hne, o0, h0, rfl⟩
          · trivial
          · exact SObj.frz_ok hle hpl hv (hs.hs.objs m o0 h0)
        · obtain ⟨x0, a1, a2, _⟩ := back2 m x hm hx
          obtain ⟨y0, b1, b2, _⟩ := back2 k y hk hy
          exact HS.inj m k x0 y0 p p' a1 b1 a2 b2 hp hp' he
        · obtain ⟨μ, hA⟩ := HS.abs
          have ab : ∀ {m k st refs}, hget (cden (frzHeap ⟨n, sz, len, ks, e⟩ q.h)) m = some (.abs k st refs) → hget (hput (cden q.h) n .gone) m = some (.abs k st refs) := fun hm => by
            obtain ⟨o0, a1, a2, a3⟩ := back2 _ _ hm rfl
            rw [a3 rfl] at a1; exact a1
          refine ⟨μ, fun m k st refs hm => hA.holds m k st refs (ab hm), fun m k st refs c hm => hA.own m k st refs c (ab hm), fun m k st refs c m' o' p hm hc hm' ho' hp => ?_, fun m k st refs m' k' st' refs' c hm hm' => hA.apart2 m k st refs m' k' st' refs' c (ab hm) (ab hm'), fun m k st refs c hm => hA.fz m k st refs c (ab hm)⟩
          obtain ⟨y0, b1, b2, _⟩ := back2 m' o' hm' ho'
          exact hA.apart m k st refs c m' y0 p (ab hm) hc b1 b2 hp
        · obtain ⟨y0, b1, b2, _⟩ := back2 m o' hm ho'
          exact HS.fz.free b x m y0 p hb b1 b2 hp
    · cases h
  · cases h

/-! ### which ones -/
mutual
def SV.sls : SV → List Nat
  | .sl n _ _ _ => [n]
  | .agg l => SV.slsL l
  | .tup l => SV.slsL l
  | .ifc _ x => SV.sls x
  | _ => []
def SV.slsL : List SV → List Nat
  | [] => []
  | x :: l => SV.sls x ++ SV.slsL l
end
def frzMany (g : Nat → Leaf → Option (Leaf × List Ob)) : List Nat → Leaf → Option (Leaf × List Ob)
  | [], q => some (q, [])
  | n :: r, q =>
    match g n q with
    | some (q1, o1) =>
      match frzMany g r q1 with
      | some (q2, o2) => some (q2, o1 ++ o2)
      | none => none
    | none => none
theorem frzMany_ok {g : Nat → Leaf → Option (Leaf × List Ob)} (hg : ∀ n q q' obs, g n q = some (q', obs) → AllT env obs → Thaw env q q') : ∀ {l : List Nat} {q q' : Leaf} {obs : List Ob}, frzMany g l q = some (q', obs) → AllT env obs → Thaw env q q'
  | [], q, q', obs, h, _ => by simp only [frzMany, Option.some.injEq, Prod.mk.injEq] at h; obtain ⟨rfl, _⟩ := h; exact Thaw.refl q
  | n :: r, q, q', obs, h, ht => by
    simp only [frzMany] at h
    split at h
    · rename_i q1 o1 h1
      split at h
      · rename_i q2 o2 h2
        simp only [Option.some.injEq, Prod.mk.injEq] at h
        obtain ⟨rfl, rfl⟩ := h
        obtain ⟨t1, t2⟩ := allT_append.1 ht
        exact (hg n q q1 o1 h1 t1).trans (frzMany_ok hg h2 t2)
      · cases h
    · cases h
/-- Slices within first. -/
def Leaf.frzN (P : Program) : Nat → Nat → Leaf → Option (Leaf × List Ob)
  | 0, _, _ => none
  | d + 1, n, q =>
    match cget q.h n with
    | some (.row _ _ _ _ tail) =>
      match frzMany (Leaf.frzN P d) (SV.slsL tail.flatten) q with
      | some (q1, o1) =>
        match q1.frz1 P n with
        | some (q2, o2) => some (q2, o1 ++ o2)
        | none => none
      | none => none
    | _ => none
theorem Leaf.frzN_ok {P : Program} : ∀ {d n : Nat} {q q' : Leaf} {obs : List Ob}, q.frzN P d n = some (q', obs) → AllT env obs → Thaw env q q'
  | 0, _, _, _, _, h, _ => by cases h
  | d + 1, n, q, q', obs, h, ht => by
    simp only [Leaf.frzN] at h
    split at h
    · split at h
      · rename_i q1 o1 h1
        split at h
        · rename_i q2 o2 h2
          simp only [Option.some.injEq, Prod.mk.injEq] at h
          obtain ⟨rfl, rfl⟩ := h
          obtain ⟨t1, t2⟩ := allT_append.1 ht
          exact (frzMany_ok (fun n q q' obs => Leaf.frzN_ok) h1 t1).trans (Leaf.frz1_ok h2 t2)
        · cases h
      · cases h
    · cases h
end
mutual
/-- Where data is asked for, and a row of the call's own stands. -/
def wantV : SV → SV → List Nat
  | .sl n _ _ _, .dsl _ _ => [n]
  | .agg l, .agg m => wantL l m
  | .tup l, .tup m => wantL l m
  | .ifc _ x, .ifc _ y => wantV x y
  | _, _ => []
def wantL : List SV → List SV → List Nat
  | x :: l, y :: m => wantV x y ++ wantL l m
  | _, _ => []
end
def wantR : List SV → List Col → List Nat
  | .sl n _ _ _ :: l, .dsl _ _ :: m => n :: wantR l m
  | .sl n _ _ _ :: l, .tc (.sl _) _ _ :: m => n :: wantR l m
  | _ :: l, _ :: m => wantR l m
  | _, _ => []
def wantT (cols : List Col) : List (List SV) → List Nat
  | [] => []
  | t :: r => wantR t cols ++ wantT cols r
def wantO : SObj → SObj → List Nat
  | .cells _ l, .cells _ m => wantL l m
  | .row _ _ _ _ tail, .row _ _ _ cols _ => wantT cols tail
  | _, _ => []
def wantOv (sl : List SV) : List (Nat × SV) → List Nat
  | [] => []
  | (j, y) :: r => (match nth sl j with | some x => wantV x y | none => []) ++ wantOv sl r
def wantHp (σ : Nat → Nat) (hL : CHeap) : CHeap → List Nat
  | [] => []
  | (n, o') :: r => (match cget hL (σ n) with | some o => wantO o o' | none => []) ++ wantHp σ hL r
def dedupN : List Nat → List Nat
  | [] => []
  | n :: r => cond (inL n r) (dedupN r) (n :: dedupN r)
def Leaf.thawFor (P : Program) (q : Leaf) (ov : List (Nat × SV)) (hp : CHeap) (l : List (Nat × Nat)) : Option (Leaf × List Ob) :=
  frzMany (fun n q => q.frzN P 6 n) (dedupN (wantOv q.fr.sl ov ++ wantHp (sig l q.nx) q.h hp)) q
theorem Leaf.thawFor_ok {P : Program} {env : Env} {q q' : Leaf} {ov : List (Nat × SV)} {hp : CHeap} {l : List (Nat × Nat)} {obs : List Ob} (h : q.thawFor P ov hp l = some (q', obs)) (ht : AllT env obs) : Thaw env q q' :=
  frzMany_ok (fun n q q' obs => Leaf.frzN_ok) h ht
end Go.Sx
