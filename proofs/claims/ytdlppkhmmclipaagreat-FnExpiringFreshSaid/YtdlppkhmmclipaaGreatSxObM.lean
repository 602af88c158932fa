/-
  A STORE WHOSE OBJECTS EXPIRE: listing and replacing keep it as the model is.
-/
import Derived.Test.YtdlppkhmmclipaaGreatSxObF
import Derived.Test.YtdlppkhmmclipaaGreatSxObZ
namespace Go.Proofs.YtdlppkhmmclipaaGreat.sxObj
open Go.Sx Go.RowKit Go.Proofs.YtdlppkhmmclipaaGreat
set_option linter.unusedVariables false
set_option linter.unusedSimpArgs false
def ky (r : Row) : List UInt8 := (r.headD (.i 0)).S.toList
def Uniq (l : List Row) : Prop := l.Pairwise fun a b => ky a ≠ ky b
theorem S_ext {a b : ByteArray} (h : a.toList = b.toList) : a = b := by
  rw [toList_data, toList_data] at h; exact ByteArray.ext (Array.toList_inj.1 h)
theorem kq {r : Row} {k : Dv} : KQ.s.eq (r.headD (.i 0)) k = true ↔ ky r = k.S.toList := by
  unfold KQ.eq ky; exact beq_iff_eq
theorem mfind_is {k : Dv} : ∀ {l : List Row} {i : Nat}, mfind .s k l = some i -> ∃ h : i < l.length, ky l[i] = k.S.toList
  | r :: l, i, h => by
    unfold mfind at h; cases hq : KQ.s.eq (r.headD (.i 0)) k with
    | true => rw [hq] at h; cases h; exact ⟨Nat.succ_pos _, kq.1 hq⟩
    | false =>
      rw [hq] at h; simp only [cond_false, Option.map_eq_some_iff] at h; obtain ⟨j, hj, rfl⟩ := h; obtain ⟨h1, h2⟩ := mfind_is hj; exact ⟨Nat.succ_lt_succ h1, h2⟩
theorem mfind_no {k : Dv} : ∀ {l : List Row}, mfind .s k l = none -> ∀ r ∈ l, ky r ≠ k.S.toList
  | r :: l, h, x, hx => by
    unfold mfind at h; cases hq : KQ.s.eq (r.headD (.i 0)) k with
    | true => rw [hq] at h; cases h
    | false =>
      rw [hq] at h; simp only [cond_false, Option.map_eq_none_iff] at h; rcases List.mem_cons.1 hx with rfl | hx
      . exact fun e => by rw [kq.2 e] at hq; cases hq
      . exact mfind_no h x hx
theorem uniq_ix {l : List Row} (h : Uniq l) {i j : Nat} (hi : i < l.length) (hj : j < l.length) (e : ky l[i] = ky l[j]) : i = j := by
  rcases Nat.lt_trichotomy i j with hl | hl | hl
  . exact absurd e (List.pairwise_iff_getElem.1 h i j hi hj hl)
  . exact hl
  . exact absurd e.symm (List.pairwise_iff_getElem.1 h j i hj hi hl)
theorem mem_put {l : List Row} (h : Uniq l) {x r : Row} : r ∈ mput .s l x ↔ r = x \/ r ∈ l /\ ky r ≠ ky x := by
  unfold mput; cases hf : mfind .s (x.headD (.i 0)) l with
  | none =>
    have hn := mfind_no hf; simp only [List.mem_append, List.mem_singleton]; exact ⟨fun q => q.elim (fun q => .inr ⟨q, hn r q⟩) .inl, fun q => q.elim .inr fun q => .inl q.1⟩
  | some i =>
    obtain ⟨hi, he⟩ := mfind_is hf; simp only [List.mem_iff_getElem, List.length_set]; constructor
    . rintro ⟨j, hj, rfl⟩; rw [List.getElem_set]; split
      . exact .inl rfl
      . rename_i hne; exact .inr ⟨⟨j, hj, rfl⟩, fun e => hne (uniq_ix h hi hj (he.trans e.symm))⟩
    . rintro (rfl | ⟨⟨j, hj, rfl⟩, hne⟩)
      . exact ⟨i, hi, by rw [List.getElem_set_self]⟩
      . refine ⟨j, hj, ?_⟩; rw [List.getElem_set_ne]; intro e; subst e; exact hne he
theorem uniq_put {l : List Row} (h : Uniq l) {x : Row} : Uniq (mput .s l x) := by
  unfold mput; cases hf : mfind .s (x.headD (.i 0)) l with
  | none =>
    refine List.pairwise_append.2 ⟨h, List.pairwise_singleton _ _, fun a ha b hb => ?_⟩; rw [List.mem_singleton.1 hb]; exact mfind_no hf a ha
  | some i =>
    obtain ⟨hi, he⟩ := mfind_is hf; refine List.pairwise_iff_getElem.2 fun a b ha hb hab => ?_; rw [List.length_set] at ha hb; rw [List.getElem_set, List.getElem_set]; split
    . split
      . omega
      . rename_i e hne; exact fun q => hne (uniq_ix h hi hb (he.trans q))
    . split
      . rename_i hne e; exact fun q => hne (uniq_ix h hi ha (he.trans q.symm))
      . exact List.pairwise_iff_getElem.1 h a b ha hb hab
theorem mem_del {l : List Row} (h : Uniq l) {k : Dv} {r : Row} : r ∈ mdel .s l k ↔ r ∈ l /\ ky r ≠ k.S.toList := by
  unfold mdel; cases hf : mfind .s k l with
  | none => exact ⟨fun q => ⟨q, mfind_no hf r q⟩, fun q => q.1⟩
  | some i =>
    obtain ⟨hi, he⟩ := mfind_is hf; simp only [List.mem_eraseIdx_iff_getElem]; constructor
    . rintro ⟨j, hj, hne, rfl⟩; exact ⟨List.getElem_mem _, fun e => hne (uniq_ix h hj hi (e.trans he.symm))⟩
    . rintro ⟨hm, hne⟩; obtain ⟨j, hj, rfl⟩ := List.mem_iff_getElem.1 hm; exact ⟨j, hj, fun e => by subst e; exact hne he, rfl⟩
theorem uniq_del {l : List Row} (h : Uniq l) {k : Dv} : Uniq (mdel .s l k) := by
  unfold mdel; split
  . exact h.sublist (List.eraseIdx_sublist ..)
  . exact h
theorem perm_of {l m : List Row} (h : Uniq l) (h2 : Uniq m) (e : ∀ r, r ∈ l ↔ r ∈ m) : l.Perm m :=
  (List.perm_ext_iff_of_nodup (h.imp fun hne he => hne (by rw [he])) (h2.imp fun hne he => hne (by rw [he]))).2 e
theorem has_iff {l : List Row} {k : Dv} : 0 <= mfindI .s k l ↔ ∃ r ∈ l, ky r = k.S.toList := by
  unfold mfindI; cases hf : mfind .s k l with
  | none => exact ⟨fun q => absurd q (by decide), fun ⟨r, hr, e⟩ => absurd e (mfind_no hf r hr)⟩
  | some i =>
    obtain ⟨hi, he⟩ := mfind_is hf; exact ⟨fun _ => ⟨_, List.getElem_mem hi, he⟩, fun _ => Int.natCast_nonneg i⟩
theorem row_of {l : List Row} (h : Uniq l) {k : Dv} {r : Row} (hr : r ∈ l) (e : ky r = k.S.toList) : row (.t l) (mfindI .s k l).toNat = r := by
  unfold mfindI; cases hf : mfind .s k l with
  | none => exact absurd e (mfind_no hf r hr)
  | some i =>
    obtain ⟨hi, he⟩ := mfind_is hf; obtain ⟨j, hj, rfl⟩ := List.mem_iff_getElem.1 hr; have := uniq_ix h hj hi (e.trans he.symm); subst this; unfold row; show (l[j]?).getD [] = _; rw [List.getElem?_eq_getElem hj]; rfl
theorem uniq_nil : Uniq [] := List.Pairwise.nil
theorem apart_of {l : List Row} (h : Uniq l) : Apart l := h.imp fun {a b} hne he => hne (by
  unfold ky; rw [head_cc, head_cc, he])
theorem tri (a b : List UInt8) : a < b \/ a = b \/ b < a := by
  by_cases h : a < b
  . exact .inl h
  by_cases h2 : b < a
  . exact .inr (.inr h2)
  exact .inr (.inl (List.le_antisymm (List.not_lt.1 h2) (List.not_lt.1 h)))
def Inc (l : List Row) : Prop := l.Pairwise fun a b => kl a < kl b
theorem inc_ix {l : List Row} (h : Inc l) {i j : Nat} (hi : i < l.length) (hj : j < l.length) (e : kl l[i] = kl l[j]) : i = j := by
  rcases Nat.lt_trichotomy i j with hl | hl | hl
  . have := List.pairwise_iff_getElem.1 h i j hi hj hl; rw [e] at this; exact absurd this (List.lt_irrefl _)
  . exact hl
  . have := List.pairwise_iff_getElem.1 h j i hj hi hl; rw [e] at this; exact absurd this (List.lt_irrefl _)
theorem at_low {l : List Row} {k : ByteArray} {r : Row} (hr : r ∈ l.take (atN (.t l) k)) : kl r < k.toList := by
  obtain ⟨i, hi, rfl⟩ := List.mem_iff_getElem.1 hr; rw [List.length_take] at hi; have hb : atB (.t l) k i = false := stop_before (show i < stop (atB (.t l) k) l.length from by unfold atN at hi; simp only [T_t] at hi; omega)
  unfold atB at hb; have e : row (.t l) i = l[i]'(by omega) := row_get (l := .t l) (show i < l.length by omega)
  rw [e, bl_eq] at hb; rw [List.getElem_take]; simpa [kl] using hb
theorem at_here {l : List Row} {k : ByteArray} (h : atN (.t l) k < l.length) : ¬ kl (l[atN (.t l) k]'h) < k.toList := by
  have hb : atB (.t l) k (atN (.t l) k) = true := stop_at (show stop (atB (.t l) k) l.length < l.length from h); unfold atB at hb; have e : row (.t l) (atN (.t l) k) = l[atN (.t l) k]'h := row_get (l := .t l) h; rw [e, bl_eq] at hb; simpa [kl] using hb
theorem is_at {l : List Row} {k : ByteArray} (h : isAt (.t l) k = true) : ∃ hl : atN (.t l) k < l.length, kl (l[atN (.t l) k]'hl) = k.toList := by
  have hl : atN (.t l) k < l.length := isAt_lt h; rw [isAt_of (l := .t l) hl] at h; have e : row (.t l) (atN (.t l) k) = l[atN (.t l) k]'hl := row_get (l := .t l) hl; rw [e] at h; exact ⟨hl, by simpa [kl] using h⟩
theorem not_at {l : List Row} {k : ByteArray} (h : ¬ isAt (.t l) k = true) (hl : atN (.t l) k < l.length) : k.toList < kl (l[atN (.t l) k]'hl) := by
  rw [isAt_of (l := .t l) hl] at h; have e : row (.t l) (atN (.t l) k) = l[atN (.t l) k]'hl := row_get (l := .t l) hl; rw [e] at h; rcases tri (kl (l[atN (.t l) k]'hl)) k.toList with q | q | q
  . exact absurd q (at_here hl)
  . exact absurd q (by simpa [kl] using h)
  . exact q
def upN (l : List Row) (k : ByteArray) : Nat := if isAt (.t l) k = true then atN (.t l) k + 1 else atN (.t l) k
theorem at_high {l : List Row} (h : Inc l) {k : ByteArray} {r : Row} (hr : r ∈ l.drop (upN l k)) : k.toList < kl r := by
  obtain ⟨i, hi, rfl⟩ := List.mem_iff_getElem.1 hr; rw [List.length_drop] at hi; rw [List.getElem_drop]; unfold upN at hi ⊢
  by_cases hq : isAt (.t l) k = true
  . obtain ⟨hl, e⟩ := is_at hq; simp only [hq, if_true] at hi ⊢; rw [<- e]; exact List.pairwise_iff_getElem.1 h _ _ hl (by omega) (by omega)
  . rw [Bool.not_eq_true] at hq; simp only [hq, Bool.false_eq_true, if_false] at hi ⊢; have hlt := not_at (l := l) (k := k) (by rw [hq]; simp) (by omega)
    rcases Nat.eq_zero_or_pos i with rfl | hp
    . exact hlt
    . exact List.lt_trans hlt (List.pairwise_iff_getElem.1 h _ _ (by omega) (by omega) (by omega))
theorem split_is {l : List Row} {k : ByteArray} (r : Row) : r ∈ l -> r ∈ l.take (atN (.t l) k) \/ kl r = k.toList \/ r ∈ l.drop (upN l k) := fun hr => by
  obtain ⟨i, hi, rfl⟩ := List.mem_iff_getElem.1 hr
  by_cases h1 : i < atN (.t l) k
  . exact .inl (List.mem_take_iff_getElem.2 ⟨i, by omega, rfl⟩)
  . by_cases h2 : i < upN l k
    . refine .inr (.inl ?_); unfold upN at h2; split at h2
      . rename_i hq; obtain ⟨hl, e⟩ := is_at hq; have : i = atN (.t l) k := by omega
        subst this; exact e
      . omega
    . exact .inr (.inr (List.mem_drop_iff_getElem.2 ⟨i - upN l k, by omega, by congr 1; omega⟩))
theorem lt_ne {a b : List UInt8} (h : a < b) : a ≠ b := fun e => by rw [e] at h; exact List.lt_irrefl _ h
theorem mem_with {l : List Row} (h : Inc l) {k : ByteArray} {x r : Row} : r ∈ withT (.t l) k x ↔ r = x \/ r ∈ l /\ kl r ≠ k.toList := by
  unfold withT; rw [List.mem_append, List.mem_cons]; constructor
  . rintro (q | q | q)
    . exact .inr ⟨List.mem_of_mem_take q, lt_ne (at_low q)⟩
    . exact .inl q
    . exact .inr ⟨List.mem_of_mem_drop q, (lt_ne (at_high h q)).symm⟩
  . rintro (q | ⟨q, hne⟩)
    . exact .inr (.inl q)
    . rcases split_is (k := k) r q with q | q | q
      . exact .inl q
      . exact absurd q hne
      . exact .inr (.inr q)
theorem without_eq {l : List Row} {k : ByteArray} : withoutT (.t l) k = l.take (atN (.t l) k) ++ l.drop (upN l k) := by
  unfold withoutT upN; split
  . rfl
  . exact (List.take_append_drop _ _).symm
theorem mem_without {l : List Row} (h : Inc l) {k : ByteArray} {r : Row} : r ∈ withoutT (.t l) k ↔ r ∈ l /\ kl r ≠ k.toList := by
  rw [without_eq, List.mem_append]; constructor
  . rintro (q | q)
    . exact ⟨List.mem_of_mem_take q, lt_ne (at_low q)⟩
    . exact ⟨List.mem_of_mem_drop q, (lt_ne (at_high h q)).symm⟩
  . rintro ⟨q, hne⟩; rcases split_is (k := k) r q with q | q | q
    . exact .inl q
    . exact absurd q hne
    . exact .inr q
theorem inc_with {l : List Row} (h : Inc l) {k : ByteArray} {x : Row} (hx : kl x = k.toList) : Inc (withT (.t l) k x) := by
  unfold withT; refine List.pairwise_append.2 ⟨h.sublist (List.take_sublist ..), List.pairwise_cons.2 ⟨fun r hr => ?_, h.sublist (List.drop_sublist ..)⟩, fun a ha b hb => ?_⟩
  . rw [hx]; exact at_high h hr
  . rcases List.mem_cons.1 hb with rfl | hb
    . rw [hx]; exact at_low ha
    . exact List.lt_trans (at_low ha) (at_high h hb)
theorem inc_without {l : List Row} (h : Inc l) {k : ByteArray} : Inc (withoutT (.t l) k) := by
  rw [without_eq]; exact List.pairwise_append.2 ⟨h.sublist (List.take_sublist ..), h.sublist (List.drop_sublist ..), fun a ha b hb => List.lt_trans (at_low ha) (at_high h hb)⟩
structure Good (S : List Row) : Prop where
  i : Inc S
  g : ∀ r ∈ S, bad r = false
  e : ∀ r ∈ S, eight r = r
theorem Good.rise {S : List Row} (h : Good S) : Rising S := ⟨h.i, h.g⟩
theorem good_nil : Good [] := ⟨List.Pairwise.nil, (fun _ q => by cases q), (fun _ q => by cases q)⟩
theorem good_with {S : List Row} (h : Good S) {k : ByteArray} {x : Row} (hx : kl x = k.toList) (hb : bad x = false) (he : eight x = x) : Good (withT (.t S) k x) :=
  ⟨inc_with h.i hx, fun r hr => by
    rcases (mem_with h.i).1 hr with rfl | hr
    . exact hb
    . exact h.g r hr.1, fun r hr => by
    rcases (mem_with h.i).1 hr with rfl | hr
    . exact he
    . exact h.e r hr.1⟩
theorem good_sub {S S' : List Row} (h : Good S) (hs : S'.Sublist S) : Good S' := ⟨h.i.sublist hs, fun r hr => h.g r (hs.subset hr), fun r hr => h.e r (hs.subset hr)⟩
theorem good_without {S : List Row} (h : Good S) {k : ByteArray} : Good (withoutT (.t S) k) :=
  ⟨inc_without h.i, fun r hr => h.g r ((mem_without h.i).1 hr).1, fun r hr => h.e r ((mem_without h.i).1 hr).1⟩
theorem uniq_items {S M : List Row} (h : Inc S) : Uniq (itemsT S M) :=
  List.pairwise_map.2 (h.imp fun {a b} hl => lt_ne hl)
theorem mem_items {S M : List Row} {x : Row} : x ∈ itemsT S M ↔ ∃ o ∈ S, ent M o = x := List.mem_map
theorem atV_is {M : List Row} (h : Uniq M) {k : ByteArray} {r : Row} (hr : r ∈ M) (e : ky r = k.toList) : atV (.t M) k = (cc r 1).I := by
  unfold atV; have hh : 0 <= mfindI .s (.s k) (Dv.t M).T := has_iff.2 ⟨r, hr, e⟩; rw [if_pos hh]; show (cc (row (.t M) (mfindI .s (.s k) M).toNat) 1).I = _; rw [row_of h hr (k := .s k) e]
theorem atV_no {M : List Row} {k : ByteArray} (e : ¬ ∃ r ∈ M, ky r = k.toList) : atV (.t M) k = 0 := by
  unfold atV; exact if_neg fun q => e (has_iff.1 q)
theorem at_put {M : List Row} (h : Uniq M) {k k' : ByteArray} {t : Dv} : atV (.t (mput .s M [.s k, t])) k' = if k'.toList = k.toList then t.I else atV (.t M) k' := by
  have hu := uniq_put h (x := [.s k, t])
  by_cases e : k'.toList = k.toList
  . rw [if_pos e]; have hm : ([.s k, t] : Row) ∈ mput .s M [.s k, t] := (mem_put h).2 (.inl rfl); exact atV_is hu hm e.symm
  . rw [if_neg e]
    have hm : ∀ r : Row, ky r = k'.toList -> (r ∈ mput .s M [.s k, t] ↔ r ∈ M) := fun r hr => by
      rw [mem_put h]; exact ⟨fun q => q.elim (fun q => by subst q; exact absurd hr.symm e) (·.1), fun q => .inr ⟨q, fun q2 => e (hr.symm.trans q2)⟩⟩
    by_cases hh : ∃ r ∈ M, ky r = k'.toList
    . obtain ⟨r, hr, er⟩ := hh; rw [atV_is h hr er, atV_is hu ((hm r er).2 hr) er]
    . rw [atV_no hh, atV_no fun ⟨r, hr, er⟩ => hh ⟨r, (hm r er).1 hr, er⟩]
theorem ent_put {M : List Row} (h : Uniq M) {k : ByteArray} {t : Dv} {o : Row} (hne : kl o ≠ k.toList) : ent (mput .s M [.s k, t]) o = ent M o := by
  unfold ent; rw [at_put h, if_neg (show ¬ (kS o).toList = k.toList from hne)]
theorem items_add {S M : List Row} (h : Good S) (hM : Uniq M) {k : ByteArray} {now : Int} {x : Row} (hx : kS x = k) :
    (mput .s (itemsT S M) (itRow (.t [nine x]) (.i now) (.s k))).Perm (itemsT (withT (.t S) k x) (mput .s M [.s k, .i now])) := by
  have hu := uniq_items (M := M) h.i; have hk : kl x = k.toList := by unfold kl; rw [hx]
  have e1 : ent (mput .s M [.s k, .i now]) x = itRow (.t [nine x]) (.i now) (.s k) := by
    unfold ent; rw [at_put hM, hx, if_pos rfl]; rfl
  refine perm_of (uniq_put hu) (uniq_items (inc_with h.i hk)) fun r => ?_; rw [mem_put hu, mem_items, mem_items]; constructor
  . rintro (rfl | ⟨⟨o, ho, rfl⟩, hne⟩)
    . exact ⟨x, (mem_with h.i).2 (.inl rfl), e1⟩
    . exact ⟨o, (mem_with h.i).2 (.inr ⟨ho, hne⟩), ent_put hM hne⟩
  . rintro ⟨o, ho, rfl⟩; rcases (mem_with h.i).1 ho with rfl | ⟨ho, hne⟩
    . exact .inl e1
    . exact .inr ⟨⟨o, ho, (ent_put hM hne).symm⟩, by rw [ent_put hM hne]; exact hne⟩
theorem items_del {S M : List Row} (h : Good S) {k : ByteArray} : (mdel .s (itemsT S M) (.s k)).Perm (itemsT (withoutT (.t S) k) M) := by
  have hu := uniq_items (M := M) h.i; refine perm_of (uniq_del hu) (uniq_items (inc_without h.i)) fun r => ?_; rw [mem_del hu, mem_items, mem_items]; constructor
  . rintro ⟨⟨o, ho, rfl⟩, hne⟩; exact ⟨o, (mem_without h.i).2 ⟨ho, hne⟩, rfl⟩
  . rintro ⟨o, ho, rfl⟩; have := (mem_without h.i).1 ho; exact ⟨⟨o, this.1, rfl⟩, this.2⟩
theorem items_same {S M : List Row} (h : Good S) {k : ByteArray} (hn : ¬ 0 <= mfindI .s (.s k) (itemsT S M)) : (itemsT S M).Perm (itemsT (withoutT (.t S) k) M) := by
  have e : mdel .s (itemsT S M) (.s k) = itemsT S M := by
    unfold mfindI at hn; unfold mdel; split
    . rename_i i hi; rw [hi] at hn; exact absurd (Int.natCast_nonneg i) hn
    . rfl
  have := items_del (M := M) h (k := k); rwa [e] at this
theorem rng_row {S : List Row} : (List.range S.length).map (row (.t S)) = S := by
  refine List.ext_getElem (by simp) fun i h1 h2 => ?_
  rw [List.getElem_map, List.getElem_range]; exact row_get (l := .t S) h2
theorem ix_filter {S : List Row} (p : Row -> Bool) : ((List.range S.length).filter fun j => p (row (.t S) j)).map (row (.t S)) = S.filter p := by
  conv => rhs; rw [<- rng_row (S := S)]
  rw [List.filter_map]; rfl
theorem alOut_eq {S : List Row} {m : Dv} {now ttl : Int} {only : Dv} {all : Bool} : alOutT (.t S) m now ttl only all = S.filter fun r => dec (askP only all (kS r) /\ ¬ goneP m now ttl (kS r)) :=
  ix_filter (S := S) fun r => dec (askP only all (kS r) /\ ¬ goneP m now ttl (kS r))
theorem row_inc {S : List Row} (h : Inc S) {n : Nat} (hn : n < S.length) {r : Row} (hr : r ∈ S) (e : kl r = kl (row (.t S) n)) : r = row (.t S) n := by
  obtain ⟨i, hi, rfl⟩ := List.mem_iff_getElem.1 hr; rw [row_get (l := .t S) hn] at e ⊢; have := inc_ix h hi hn e; subst this; rfl
theorem alST_inc {S : List Row} (h : Inc S) {m : Dv} {now ttl : Int} {only : Dv} {all : Bool} : ∀ n, Inc (alST (.t S) m now ttl only all n)
  | 0 => h
  | n + 1 => by
    unfold alST; split
    . exact inc_without (alST_inc h n)
    . exact alST_inc h n
theorem mem_alST {S : List Row} (h : Inc S) {m : Dv} {now ttl : Int} {only : Dv} {all : Bool} : ∀ n, n <= S.length -> ∀ r, (r ∈ alST (.t S) m now ttl only all n ↔ r ∈ S /\ ¬ ((∃ j, j < n /\ row (.t S) j = r) /\ askP only all (kS r) /\ goneP m now ttl (kS r)))
  | 0, _, r => ⟨fun q => ⟨q, fun q => by obtain ⟨⟨j, hj, _⟩, _⟩ := q; omega⟩, fun q => q.1⟩
  | n + 1, hn, r => by
    have ih := mem_alST h (m := m) (now := now) (ttl := ttl) (only := only) (all := all) n (by omega) r
    have hi := alST_inc h (m := m) (now := now) (ttl := ttl) (only := only) (all := all) n; show r ∈ (if _ then _ else _) ↔ _
    split
    . rename_i hq; have hq := dec_iff.1 hq; rw [mem_without hi, ih]; constructor
      . rintro ⟨⟨h1, h2⟩, h3⟩; refine ⟨h1, fun ⟨⟨j, hj, e⟩, h4⟩ => ?_⟩; rcases Nat.lt_or_ge j n with hl | hl
        . exact h2 ⟨⟨j, hl, e⟩, h4⟩
        . have : j = n := by omega
          subst this; exact h3 (by rw [<- e]; rfl)
      . rintro ⟨h1, h2⟩; refine ⟨⟨h1, fun ⟨⟨j, hj, e⟩, h4⟩ => h2 ⟨⟨j, by omega, e⟩, h4⟩⟩, fun e => ?_⟩
        have := row_inc h (by omega) h1 e
        refine h2 ⟨⟨n, by omega, this.symm⟩, ?_⟩
        rw [this]; exact hq
    . rename_i hq; have hq : ¬ (askP only all (kS (row (.t S) n)) /\ goneP m now ttl (kS (row (.t S) n))) := fun q => hq (dec_iff.2 q); rw [ih]; refine ⟨fun ⟨h1, h2⟩ => ⟨h1, fun ⟨⟨j, hj, e⟩, h4⟩ => ?_⟩, fun ⟨h1, h2⟩ => ⟨h1, fun ⟨⟨j, hj, e⟩, h4⟩ => h2 ⟨⟨j, by omega, e⟩, h4⟩⟩⟩
      rcases Nat.lt_or_ge j n with hl | hl
      . exact h2 ⟨⟨j, hl, e⟩, h4⟩
      . have : j = n := by omega
        subst this; subst e; exact hq h4
theorem mem_alive {S : List Row} (h : Inc S) {m : Dv} {now ttl : Int} {only : Dv} {all : Bool} (r : Row) : r ∈ alST (.t S) m now ttl only all S.length ↔ r ∈ S /\ ¬ (askP only all (kS r) /\ goneP m now ttl (kS r)) := by
  rw [mem_alST h S.length (Nat.le_refl _)]; refine ⟨fun ⟨h1, h2⟩ => ⟨h1, fun q => h2 ⟨?_, q⟩⟩, fun ⟨h1, h2⟩ => ⟨h1, fun q => h2 q.2⟩⟩; obtain ⟨n, hn, e⟩ := mem_row (d := .t S) h1; exact ⟨n, hn, e⟩
theorem good_alive {S : List Row} (h : Good S) {m : Dv} {now ttl : Int} {only : Dv} {all : Bool} : Good (alST (.t S) m now ttl only all S.length) :=
  ⟨alST_inc h.i _, fun r hr => h.g r ((mem_alive h.i r).1 hr).1, fun r hr => h.e r ((mem_alive h.i r).1 hr).1⟩
theorem has_items {S M : List Row} {k : ByteArray} : 0 <= mfindI .s (.s k) (itemsT S M) ↔ ∃ o ∈ S, kl o = k.toList := by
  rw [has_iff]; constructor
  . rintro ⟨r, hr, e⟩; obtain ⟨o, ho, rfl⟩ := mem_items.1 hr; exact ⟨o, ho, e⟩
  . rintro ⟨o, ho, e⟩; exact ⟨_, mem_items.2 ⟨o, ho, rfl⟩, e⟩
theorem row_items {S M : List Row} (h : Inc S) {k : ByteArray} {o : Row} (ho : o ∈ S) (e : kl o = k.toList) : row (.t (itemsT S M)) (mfindI .s (.s k) (itemsT S M)).toNat = ent M o :=
  row_of (uniq_items h) (mem_items.2 ⟨o, ho, rfl⟩) e
theorem ask_one {k x : ByteArray} : askP (.s k) false x ↔ x.toList = k.toList := ⟨fun q => q.elim (fun e => by cases e) id, .inr⟩
theorem kS_of {o : Row} {k : ByteArray} (e : kl o = k.toList) : kS o = k := S_ext e
theorem get_none {S M : List Row} (h : Good S) {k : ByteArray} {now ttl : Int} (hn : ¬ 0 <= mfindI .s (.s k) (itemsT S M)) :
    alOutT (.t S) (.t M) now ttl (.s k) false = [] /\ (itemsT S M).Perm (itemsT (alST (.t S) (.t M) now ttl (.s k) false S.length) M) := by
  have hn : ¬ ∃ o ∈ S, kl o = k.toList := fun q => hn (has_items.2 q); constructor
  . rw [alOut_eq, List.filter_eq_nil_iff]; exact fun r hr q => hn ⟨r, hr, ask_one.1 (dec_iff.1 q).1⟩
  . refine perm_of (uniq_items h.i) (uniq_items (alST_inc h.i _)) fun x => ?_; rw [mem_items, mem_items]; exact ⟨fun ⟨o, ho, e⟩ => ⟨o, (mem_alive h.i o).2 ⟨ho, fun q => hn ⟨o, ho, ask_one.1 q.1⟩⟩, e⟩, fun ⟨o, ho, e⟩ => ⟨o, ((mem_alive h.i o).1 ho).1, e⟩⟩
theorem get_keep {S M : List Row} (h : Good S) {k : ByteArray} {now ttl : Int} {o : Row} (ho : o ∈ S) (e : kl o = k.toList) (hg : ¬ goneP (.t M) now ttl k) :
    alOutT (.t S) (.t M) now ttl (.s k) false = [o] /\ (itemsT S M).Perm (itemsT (alST (.t S) (.t M) now ttl (.s k) false S.length) M) := by
  have hk := kS_of e
  have one : ∀ r ∈ S, (dec (askP (.s k) false (kS r) /\ ¬ goneP (.t M) now ttl (kS r)) = true ↔ r = o) := fun r hr => by
    rw [dec_iff, ask_one]; constructor
    . intro q; obtain ⟨n, hn, e2⟩ := mem_row (d := .t S) ho; have hn : n < S.length := hn; have h3 := row_inc h.i hn hr (by rw [e2, e]; exact q.1)
      rw [h3, e2]
    . intro q; subst q; exact ⟨e, by rw [hk]; exact hg⟩
  constructor
  . rw [alOut_eq]; refine List.perm_singleton.1 ((List.perm_ext_iff_of_nodup ?_ ?_).2 fun r => ?_)
    . exact (h.i.imp fun {a b} hl hab => by rw [hab] at hl; exact List.lt_irrefl _ hl).sublist List.filter_sublist
    . exact List.pairwise_singleton _ _
    . rw [List.mem_filter, List.mem_singleton]; exact ⟨fun q => (one r q.1).1 q.2, fun q => by subst q; exact ⟨ho, (one r ho).2 rfl⟩⟩
  . refine perm_of (uniq_items h.i) (uniq_items (alST_inc h.i _)) fun x => ?_; rw [mem_items, mem_items]; refine ⟨fun ⟨o, ho, e2⟩ => ⟨o, (mem_alive h.i o).2 ⟨ho, fun q => ?_⟩, e2⟩, fun ⟨o, ho, e⟩ => ⟨o, ((mem_alive h.i o).1 ho).1, e⟩⟩; have := q.2; rw [S_ext (ask_one.1 q.1)] at this; exact hg this
theorem get_gone {S M : List Row} (h : Good S) {k : ByteArray} {now ttl : Int} (hg : goneP (.t M) now ttl k) :
    alOutT (.t S) (.t M) now ttl (.s k) false = [] /\ (mdel .s (itemsT S M) (.s k)).Perm (itemsT (alST (.t S) (.t M) now ttl (.s k) false S.length) M) := by
  constructor
  . rw [alOut_eq, List.filter_eq_nil_iff]; intro r hr q; have q := dec_iff.1 q; rw [S_ext (ask_one.1 q.1)] at q; exact q.2 hg
  . refine (items_del h).trans (perm_of (uniq_items (inc_without h.i)) (uniq_items (alST_inc h.i _)) fun x => ?_); rw [mem_items, mem_items]; constructor
    . rintro ⟨o, ho, e⟩; have ho := (mem_without h.i).1 ho; exact ⟨o, (mem_alive h.i o).2 ⟨ho.1, fun q => ho.2 (ask_one.1 q.1)⟩, e⟩
    . rintro ⟨o, ho, e⟩; have ho := (mem_alive h.i o).1 ho; refine ⟨o, (mem_without h.i).2 ⟨ho.1, fun q => ho.2 ⟨ask_one.2 q, ?_⟩⟩, e⟩; rw [kS_of q]; exact hg
theorem inc_row {S : List Row} (h : Inc S) {i j : Nat} (hi : i < S.length) (hj : j < S.length) (e : row (.t S) i = row (.t S) j) : i = j := by
  rw [row_get (l := .t S) hi, row_get (l := .t S) hj] at e; exact inc_ix h hi hj (congrArg kl e)
theorem keyS_row (k : ByteArray) : keyS [.s k] = k.toList := by
  unfold keyS; rw [toList_data]; rfl
theorem sort_keys {S : List Row} (h : Inc S) : sortT (S.map keyRow) = S.map keyRow := by
  unfold sortT
  have e : (S.map keyRow).map keyS = S.map kl := by
    rw [List.map_map]; exact List.map_congr_left fun r _ => keyS_row _
  rw [e, List.mergeSort_of_pairwise]
  . rw [List.map_map]; refine List.map_congr_left fun r _ => ?_; show rowS (kl r) = keyRow r; unfold rowS keyRow kl
    congr 2
    rw [toList_data]
  . refine List.pairwise_map.2 (h.imp fun {a b} hl => ?_); unfold leB; have := List.lt_asymm hl; simpa using List.not_lt.1 this
theorem first_items {S M : List Row} : (itemsT S M).map firstRow = S.map keyRow := by
  unfold itemsT; rw [List.map_map]; rfl
def lsT (S M : List Row) : List Row := S.map fun o => [cc (ent M o) 1]
theorem list_eq {S M : List Row} (h : Inc S) : tlT (.t (S.map keyRow)) (.t (itemsT S M)) = lsT S M := by
  unfold tlT lsT; show (S.map keyRow).map _ = _; rw [List.map_map]; refine List.map_congr_left fun o ho => ?_; show [cc (row (.t (itemsT S M)) (mfindI .s (.s (kS o)) (itemsT S M)).toNat) 1] = _; rw [row_items h ho rfl]
theorem all_in {S M : List Row} : allIn (.t (S.map keyRow)) (.t (itemsT S M)) := fun k hk => by
  obtain ⟨o, ho, rfl⟩ := List.mem_map.1 hk; exact has_items.2 ⟨o, ho, rfl⟩
theorem ls_len {S M : List Row} : (lsT S M).length = S.length := by unfold lsT; rw [List.length_map]
theorem ls_key {S M : List Row} {n : Nat} (hn : n < S.length) : enKey (.t (lsT S M)) n = .s (kS (row (.t S) n)) := by
  unfold enKey; rw [show row (.t (lsT S M)) n = [cc (ent M (row (.t S) n)) 1] from row_map (f := fun o => [cc (ent M o) 1]) hn]; rfl
theorem en_times {S M : List Row} (h : timesOk (.t M)) : enTimes (itemsT S M) := fun r hr => by
  obtain ⟨o, ho, rfl⟩ := mem_items.1 hr; exact atV_ok h
section
variable {S M : List Row} {now ttl : Int}
theorem el_sub : ∀ n, ∀ r, r ∈ elIt (.t (lsT S M)) (.t (itemsT S M)) now ttl n -> r ∈ itemsT S M
  | 0, r, h => h
  | n + 1, r, h => by
    unfold elIt at h; split at h
    . exact el_sub n r (mdel_mem h)
    . exact el_sub n r h
theorem el_uniq (h : Inc S) : ∀ n, Uniq (elIt (.t (lsT S M)) (.t (itemsT S M)) now ttl n)
  | 0 => uniq_items h
  | n + 1 => by
    unfold elIt; split
    . exact uniq_del (el_uniq h n)
    . exact el_uniq h n
theorem mem_elIt (h : Inc S) : ∀ n, n <= S.length -> ∀ o ∈ S, (ent M o ∈ elIt (.t (lsT S M)) (.t (itemsT S M)) now ttl n ↔ ¬ ((∃ j, j < n /\ row (.t S) j = o) /\ goneP (.t M) now ttl (kS o)))
  | 0, _, o, ho => ⟨fun _ q => by obtain ⟨⟨j, hj, _⟩, _⟩ := q; omega, fun _ => mem_items.2 ⟨o, ho, rfl⟩⟩
  | n + 1, hn, o, ho => by
    have ih := mem_elIt h n (by omega)
    have hu := el_uniq (M := M) (now := now) (ttl := ttl) h n; have hx : row (.t S) n ∈ S := row_mem (d := .t S) (show n < S.length by omega)
    have here : ent M (row (.t S) n) ∈ elIt (.t (lsT S M)) (.t (itemsT S M)) now ttl n := (ih _ hx).2 fun q => by
      obtain ⟨⟨j, hj, e⟩, _⟩ := q; exact Nat.ne_of_lt hj (inc_row h (by omega) (by omega) e)
    have ek := ls_key (M := M) (show n < S.length by omega)
    have hat : enOf (elIt (.t (lsT S M)) (.t (itemsT S M)) now ttl n) (enKey (.t (lsT S M)) n) = row (cc (ent M (row (.t S) n)) 1) 0 := by
      unfold enOf; rw [ek, row_of hu here (k := .s (kS (row (.t S) n))) rfl]
    have hgone : enHas (elIt (.t (lsT S M)) (.t (itemsT S M)) now ttl n) (enKey (.t (lsT S M)) n) /\ enGone (elIt (.t (lsT S M)) (.t (itemsT S M)) now ttl n) now ttl (enKey (.t (lsT S M)) n) ↔ goneP (.t M) now ttl (kS (row (.t S) n)) := by
      constructor
      . rintro ⟨_, h1, h2⟩; rw [hat] at h2; exact ⟨h1, h2.elim (fun e => by cases e) id⟩
      . rintro ⟨h1, h2⟩; refine ⟨?_, h1, ?_⟩
        . unfold enHas; rw [ek]; exact has_iff.2 ⟨_, here, rfl⟩
        . rw [hat]; exact .inr h2
    show ent M o ∈ (if _ then _ else _) ↔ _
    split
    . rename_i hq; have hq := hgone.1 (dec_iff.1 hq); rw [ek, mem_del hu, ih o ho]; constructor
      . rintro ⟨h2, h3⟩ ⟨⟨j, hj, e⟩, h4⟩; rcases Nat.lt_or_ge j n with hl | hl
        . exact h2 ⟨⟨j, hl, e⟩, h4⟩
        . have : j = n := by omega
          subst this; subst e; exact h3 rfl
      . intro h2; refine ⟨fun ⟨⟨j, hj, e⟩, h4⟩ => h2 ⟨⟨j, by omega, e⟩, h4⟩, fun e => ?_⟩
        have := row_inc h (by omega) ho e
        refine h2 ⟨⟨n, by omega, this.symm⟩, ?_⟩
        rw [this]; exact hq
    . rename_i hq; have hq : ¬ goneP (.t M) now ttl (kS (row (.t S) n)) := fun q => hq (dec_iff.2 (hgone.2 q)); rw [ih o ho]; refine ⟨fun h2 ⟨⟨j, hj, e⟩, h4⟩ => ?_, fun h2 ⟨⟨j, hj, e⟩, h4⟩ => h2 ⟨⟨j, by omega, e⟩, h4⟩⟩
      rcases Nat.lt_or_ge j n with hl | hl
      . exact h2 ⟨⟨j, hl, e⟩, h4⟩
      . have : j = n := by omega
        subst this; subst e; exact hq h4
theorem ask_all {k : Dv} {x : ByteArray} : askP k true x := .inl rfl
theorem list_keep (h : Good S) : (elIt (.t (lsT S M)) (.t (itemsT S M)) now ttl S.length).Perm (itemsT (alST (.t S) (.t M) now ttl (.s ⟨[].toArray⟩) true S.length) M) := by
  refine perm_of (el_uniq h.i _) (uniq_items (alST_inc h.i _)) fun x => ?_; constructor
  . intro hx; obtain ⟨o, ho, rfl⟩ := mem_items.1 (el_sub _ _ hx); have := (mem_elIt h.i _ (Nat.le_refl _) o ho).1 hx; refine mem_items.2 ⟨o, (mem_alive h.i o).2 ⟨ho, fun q => this ⟨?_, q.2⟩⟩, rfl⟩; obtain ⟨n, hn, e⟩ := mem_row (d := .t S) ho; exact ⟨n, hn, e⟩
  . intro hx; obtain ⟨o, ho, rfl⟩ := mem_items.1 hx; have := (mem_alive h.i o).1 ho; exact (mem_elIt h.i _ (Nat.le_refl _) o this.1).2 fun q => this.2 ⟨ask_all, q.2⟩
theorem el_one (h : Inc S) {n : Nat} (hn : n < S.length) : (elP1 (.t (lsT S M)) (.t (itemsT S M)) now ttl n ↔ ¬ goneP (.t M) now ttl (kS (row (.t S) n))) /\
    cc (enOf (elIt (.t (lsT S M)) (.t (itemsT S M)) now ttl n) (enKey (.t (lsT S M)) n)) 0 = .t [nine (row (.t S) n)] := by
  have hu := el_uniq (M := M) (now := now) (ttl := ttl) h n; have hx : row (.t S) n ∈ S := row_mem (d := .t S) hn
  have here : ent M (row (.t S) n) ∈ elIt (.t (lsT S M)) (.t (itemsT S M)) now ttl n := (mem_elIt h n (by omega) _ hx).2 fun q => by
    obtain ⟨⟨j, hj, e⟩, _⟩ := q; exact Nat.ne_of_lt hj (inc_row h (by omega) hn e)
  have ek := ls_key (M := M) hn
  have hat : enOf (elIt (.t (lsT S M)) (.t (itemsT S M)) now ttl n) (enKey (.t (lsT S M)) n) = row (cc (ent M (row (.t S) n)) 1) 0 := by
    unfold enOf; rw [ek, row_of hu here (k := .s (kS (row (.t S) n))) rfl]
  constructor
  . constructor
    . rintro ⟨_, h2⟩ ⟨h3, h4⟩; exact h2 ⟨h3, .inr (by rw [hat]; exact h4)⟩
    . intro h2; refine ⟨?_, fun ⟨h3, h4⟩ => h2 ⟨h3, ?_⟩⟩
      . unfold enHas; rw [ek]; exact has_iff.2 ⟨_, here, rfl⟩
      . rw [hat] at h4; exact h4.elim (fun e => by cases e) id
  . rw [hat]; rfl
theorem list_out (h : Inc S) : elOutT (.t (lsT S M)) (.t (itemsT S M)) now ttl = (alOutT (.t S) (.t M) now ttl (.s ⟨[].toArray⟩) true).map inRow := by
  unfold elOutT elIx alOutT alIx; simp only [T_t, ls_len]; rw [List.map_map]
  have e : (List.range S.length).filter (fun j => dec (elP1 (.t (lsT S M)) (.t (itemsT S M)) now ttl j)) = (List.range S.length).filter fun j => dec (outP (.t S) (.t M) now ttl (.s ⟨[].toArray⟩) true j) := by
    refine List.filter_congr fun j hj => ?_; have := (el_one (M := M) (now := now) (ttl := ttl) h (List.mem_range.1 hj)).1; have h2 : elP1 (.t (lsT S M)) (.t (itemsT S M)) now ttl j ↔ outP (.t S) (.t M) now ttl (.s ⟨[].toArray⟩) true j := this.trans ⟨fun q => ⟨ask_all, q⟩, fun q => q.2⟩; rw [Bool.eq_iff_iff, dec_iff, dec_iff]; exact h2
  rw [e]; refine List.map_congr_left fun j hj => ?_; have hj := List.mem_range.1 (List.mem_filter.1 hj).1; show [cc (enOf _ _) 0] = inRow (row (.t S) j); rw [(el_one h hj).2]; rfl
end
theorem out_in {l : List Row} (h : ∀ r ∈ l, eight r = r) : (l.map inRow).map outRow = l := by
  rw [List.map_map]
  conv => rhs; rw [<- List.map_id l]
  exact List.map_congr_left fun r hr => h r hr
theorem alOut_mem {S : List Row} {m : Dv} {now ttl : Int} {only : Dv} {all : Bool} {r : Row} (h : r ∈ alOutT (.t S) m now ttl only all) : r ∈ S := by
  rw [alOut_eq] at h; exact (List.mem_filter.1 h).1
theorem good_out {S : List Row} (h : Good S) {m : Dv} {now ttl : Int} {only : Dv} {all : Bool} : Good (alOutT (.t S) m now ttl only all) := by
  rw [alOut_eq]; exact good_sub h List.filter_sublist
theorem any_in {l : Dv} {n : Nat} (hn : n < l.T.length) : anyRow (.t (l.T.map inRow)) n = nine (row l n) := by
  unfold anyRow; rw [row_map hn]; rfl
theorem qa_in {l : Dv} {n : Nat} (hn : n < l.T.length) : qa (.t (l.T.map inRow)) n ↔ qb l n := by
  unfold qa qb; rw [any_in hn]; exact Iff.rfl
theorem all_qa {l : Dv} : gAll (qa (.t (l.T.map inRow))) (Dv.t (l.T.map inRow)).T.length ↔ gAll (qb l) l.T.length := by
  have e : (Dv.t (l.T.map inRow)).T.length = l.T.length := List.length_map ..; rw [e]; exact ⟨fun h j hj => (qa_in hj).1 (h j hj), fun h j hj => (qa_in hj).2 (h j hj)⟩
theorem anys_in {l : Dv} (h : okRows l.T) : anysOk (.t (l.T.map inRow)) := fun j hj => by
  have hj : j < l.T.length := by rw [T_t, List.length_map] at hj; exact hj
  rw [any_in hj]; exact okRow_at h hj
theorem good_reps {l : Dv} : ∀ n, n <= l.T.length -> (∀ j, j < n -> qb l j) -> Good (repsT l n)
  | 0, _, _ => good_nil
  | n + 1, hn, h => by
    have hb : bad (eight (row l n)) = false := h n (Nat.lt_succ_self n); refine good_with (good_reps n (by omega) fun j hj => h j (by omega)) ?_ hb rfl
    unfold kl; rw [kS_good hb]; rfl
theorem rq_uniq {l now : Dv} : ∀ n, Uniq (rqT l now n)
  | 0 => uniq_nil
  | n + 1 => uniq_put (rq_uniq n)
theorem mem_rq {l : Dv} {now : Dv} : ∀ n, n <= l.T.length -> (∀ j, j < n -> qb l j) -> ∀ x, (x ∈ rqT (.t (l.T.map inRow)) now n ↔ ∃ o ∈ repsT l n, itRow (.t [nine o]) now (.s (kS o)) = x)
  | 0, _, _, x => ⟨fun q => (by cases q), fun ⟨_, q, _⟩ => (by cases q)⟩
  | n + 1, hn, h, x => by
    have ih := mem_rq (now := now) n (by omega) fun j hj => h j (by omega)
    have hg : Good (repsT l n) := good_reps n (by omega) fun j hj => h j (by omega)
    have hb : bad (eight (row l n)) = false := h n (Nat.lt_succ_self n); have hk : kS (eight (row l n)) = keyB (cc (row l n) 0).S (cc (row l n) 1).S := kS_good hb
    have e : itRow (cc (row (.t (l.T.map inRow)) n) 0) now (anyKey (.t (l.T.map inRow)) n) = itRow (.t [nine (eight (row l n))]) now (.s (kS (eight (row l n)))) := by
      unfold anyKey; rw [any_in hn, row_map (show n < l.T.length by omega), hk]; rfl
    show x ∈ mput .s (rqT _ now n) (itRow _ now _) ↔ ∃ o ∈ withT (.t (repsT l n)) _ _, _; rw [e, mem_put (rq_uniq n), ih]; constructor
    . rintro (rfl | ⟨⟨o, ho, rfl⟩, hne⟩)
      . exact ⟨_, (mem_with hg.i).2 (.inl rfl), rfl⟩
      . exact ⟨o, (mem_with hg.i).2 (.inr ⟨ho, fun e2 => hne (by rw [<- hk] at e2; exact e2)⟩), rfl⟩
    . rintro ⟨o, ho, rfl⟩; rcases (mem_with hg.i).1 ho with rfl | ⟨ho, hne⟩
      . exact .inl rfl
      . exact .inr ⟨⟨o, ho, rfl⟩, fun e2 => hne (by rw [<- hk]; exact e2)⟩
theorem at_uniq {ks m now : Dv} (h : Uniq m.T) : ∀ n, Uniq (atT ks m now n)
  | 0 => h
  | n + 1 => uniq_put (at_uniq h n)
theorem at_uniq' {ks now : Dv} {M : List Row} (h : Uniq M) (n : Nat) : Uniq (atT ks (.t M) now n) := at_uniq (m := .t M) h n
theorem at_all_keys {S M : List Row} {now : Dv} (h : Uniq M) : ∀ n, n <= S.length -> ∀ k, atV (.t (atT (.t (S.map keyRow)) (.t M) now n)) k = if dec (∃ j, j < n /\ kl (row (.t S) j) = k.toList) = true then now.I else atV (.t M) k
  | 0, _, k => by
    rw [if_neg]
    . rfl
    . rw [dec_iff]; rintro ⟨j, hj, _⟩; omega
  | n + 1, hn, k => by
    have ih := at_all_keys (S := S) (now := now) h n (by omega) k
    have hu := at_uniq' (ks := .t (S.map keyRow)) (now := now) h n; show atV (.t (mput .s (atT _ _ now n) [cc (row (.t (S.map keyRow)) n) 0, now])) k = _; rw [row_map (show n < S.length by omega)]
    show atV (.t (mput .s (atT _ _ now n) [.s (kS (row (.t S) n)), now])) k = _; rw [at_put hu, ih]
    by_cases e : k.toList = (kS (row (.t S) n)).toList
    . rw [if_pos e, if_pos (dec_iff.2 ⟨n, Nat.lt_succ_self n, e.symm⟩)]
    . rw [if_neg e]
      have : (∃ j, j < n /\ kl (row (.t S) j) = k.toList) ↔ ∃ j, j < n + 1 /\ kl (row (.t S) j) = k.toList := by
        refine ⟨fun ⟨j, hj, q⟩ => ⟨j, by omega, q⟩, fun ⟨j, hj, q⟩ => ⟨j, ?_, q⟩⟩
        rcases Nat.lt_or_ge j n with hl | hl
        . exact hl
        . have : j = n := by omega
          subst this; exact absurd q.symm e
      by_cases hh : ∃ j, j < n /\ kl (row (.t S) j) = k.toList
      . rw [if_pos (dec_iff.2 hh), if_pos (dec_iff.2 (this.1 hh))]
      . rw [if_neg fun q => hh (dec_iff.1 q), if_neg fun q => hh (this.2 (dec_iff.1 q))]
theorem items_reps {l : Dv} {M : List Row} {now : Int} (hM : Uniq M) (h : gAll (qb l) l.T.length) :
    (rqT (.t (l.T.map inRow)) (.i now) l.T.length).Perm (itemsT (repsT l l.T.length) (atT (.t ((repsT l l.T.length).map keyRow)) (.t M) (.i now) (repsT l l.T.length).length)) := by
  have hg := good_reps (l := l) l.T.length (Nat.le_refl _) h; refine perm_of (rq_uniq _) (uniq_items hg.i) fun x => ?_; rw [mem_rq _ (Nat.le_refl _) h, mem_items]
  have e : ∀ o ∈ repsT l l.T.length, ent (atT (.t ((repsT l l.T.length).map keyRow)) (.t M) (.i now) (repsT l l.T.length).length) o = itRow (.t [nine o]) (.i now) (.s (kS o)) := fun o ho => by
    unfold ent; obtain ⟨n, hn, q⟩ := mem_row (d := .t (repsT l l.T.length)) ho; rw [at_all_keys hM _ (Nat.le_refl _), if_pos (dec_iff.2 ⟨n, hn, by rw [q]; rfl⟩)]
    rfl
  exact ⟨fun ⟨o, ho, q⟩ => ⟨o, ho, by rw [e o ho]; exact q⟩, fun ⟨o, ho, q⟩ => ⟨o, ho, by rw [<- e o ho]; exact q⟩⟩
structure SpG (s : Sp) : Prop where
  g : Good s.S
  u : Uniq s.M
theorem step_good {ttl : Int} {p : Row} {s : Sp} (h : SpG s) : SpG (spStep ttl p s).1 := by
  unfold spStep; split
  . exact h
  rename_i hb; split
  . rename_i h1
    have hb : bad (opObj p) = false := by
      cases q : (cc p 7).B with
      | true => exact absurd ⟨.inl h1, q⟩ hb
      | false => exact q
    refine ⟨good_with h.g ?_ hb rfl, uniq_put h.u⟩; unfold kl; rw [kS_good hb]; rfl
  split
  . exact ⟨good_without h.g, h.u⟩
  split
  . split
    . rename_i hq; exact ⟨good_reps _ (Nat.le_refl _) (dec_iff.1 hq), at_uniq' h.u _⟩
    . exact h
  split
  . exact ⟨good_alive h.g, h.u⟩
  split
  . exact ⟨good_alive h.g, h.u⟩
  split
  . exact h
  split
  . exact ⟨h.g, h.u⟩
  . exact h
theorem sp_good {ops : Dv} {ttl : Int} : ∀ n, SpG (spSt ops ttl n)
  | 0 => ⟨good_nil, uniq_nil⟩
  | n + 1 => step_good (sp_good n)
end Go.Proofs.YtdlppkhmmclipaaGreat.sxObj

