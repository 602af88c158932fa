/-
  SX, PART 20: slots that are forgotten; worlds that come later.
-/
import Derived.Test.YtckdphmpafopmaaSxLaw
namespace Go.Sx
open Go.RowKit
set_option linter.unusedVariables false
set_option linter.unusedSimpArgs false

def tops : List Nat → List SV → List SV
  | [], l => l
  | j :: r, l => tops r (l.set j .top)
theorem tops_rels {env : Env} {ρ : PMap} : ∀ {js : List Nat} {l : List SV} {vs : List Value}, SV.Rels env ρ l vs → SV.Rels env ρ (tops js l) vs
  | [], _, _, h => h
  | j :: r, l, vs, h => by
    show SV.Rels env ρ (tops r (l.set j .top)) vs
    refine tops_rels (js := r) ?_
    cases hv : vs[j]? with
    | none =>
      have : l.length ≤ j := by rw [← h.length]; exact List.getElem?_eq_none_iff.1 hv
      rw [List.set_eq_of_length_le this]; exact h
    | some v =>
      have := h.set j (x := .top) (v := v) (trivial : SV.Rel env ρ .top v)
      have e : vs.set j v = vs := by
        apply List.ext_getElem?
        intro i
        rw [List.getElem?_set]
        split
        · rename_i hij; subst hij; rw [hv]; rw [if_pos (List.getElem?_eq_some_iff.1 hv).1]
        · rfl
      rw [e] at this; exact this

theorem rels_of_get {env : Env} {ρ : PMap} : ∀ {l : List SV} {vs : List Value}, vs.length = l.length → (∀ (j : Nat) (x : SV) (v : Value), l[j]? = some x → vs[j]? = some v → x.Rel env ρ v) → SV.Rels env ρ l vs
  | [], [], _, _ => rfl
  | [], _ :: _, h, _ => by simp at h
  | _ :: _, [], h, _ => by simp at h
  | x :: l, v :: vs, h, k => ⟨v, vs, rfl, k 0 x v rfl rfl, rels_of_get (by simpa using h) (fun j x' v' h1 h2 => k (j + 1) x' v' (by simpa using h1) (by simpa using h2))⟩
theorem tops_get : ∀ {js : List Nat} {l : List SV} {j : Nat} {x : SV}, (tops js l)[j]? = some x → x = .top ∨ (j ∉ js ∧ l[j]? = some x)
  | [], l, j, x, h => .inr ⟨by simp, h⟩
  | k :: r, l, j, x, h => by
    rcases tops_get (js := r) (l := l.set k .top) h with h1 | ⟨h1, h2⟩
    · exact .inl h1
    · rw [List.getElem?_set] at h2
      by_cases e : k = j
      · rw [if_pos e] at h2
        split at h2
        · exact .inl (by simpa using h2.symm)
        · cases h2
      · rw [if_neg e] at h2
        exact .inr ⟨by simp only [List.mem_cons, not_or]; exact ⟨fun h => e h.symm, h1⟩, h2⟩
theorem tops_length : ∀ {js : List Nat} {l : List SV}, (tops js l).length = l.length
  | [], _ => rfl
  | k :: r, l => by simp [tops, tops_length (js := r)]
/-- Of what is forgotten nothing is asked. -/
theorem tops_rels' {env : Env} {ρ : PMap} {js : List Nat} {l : List SV} {vs vs' : List Value} (h : SV.Rels env ρ l vs) (hl : vs'.length = vs.length) (hk : ∀ j, j ∉ js → vs'[j]? = vs[j]?) : SV.Rels env ρ (tops js l) vs' := by
  refine rels_of_get (by rw [tops_length, hl, h.length]) (fun j x v hx hv => ?_)
  rcases tops_get hx with rfl | ⟨h1, h2⟩
  · trivial
  · obtain ⟨v', hv', hr⟩ := h.get h2
    rw [hk j h1, hv'] at hv
    injection hv with hv
    subst hv
    exact hr

theorem extOk_none {P : Program} {env : Env} {w0 : Anchor} : ExtOk P env w0 (XCtr.none.toExt P) :=
  ⟨fun f args nx p h r h' nx' hx => (by cases hx), fun c fr nx p h ex fr' h' nx' hx => by obtain ⟨_, _, _, _, _, _, _, h⟩ := hx; cases h⟩

/-- A leaf of which some slots are forgotten. -/
def Leaf.forget (js : List Nat) (q : Leaf) : Leaf := { q with fr := ⟨tops js q.fr.sl, q.fr.df⟩ }
def exploreF (P : Program) (X : XCtr) (fuel : Nat) (cmd : Cmd) (h : CHeap) (nx n : Nat) (fs : Facts) (js : List Nat) : Ex (List Leaf) :=
  match explore P X fuel cmd h nx n fs with
  | .ok l => .ok (l.map (Leaf.forget js))
  | .error e => .error e

theorem Sat.forget {env : Env} {w0 : Anchor} {ρ : PMap} {fr : Fr} {h : Heap} {nx : Nat} {a : Act} {w : World} (hs : Sat env w0 ρ fr h nx a w) (js : List Nat) : Sat env w0 ρ ⟨tops js fr.sl, fr.df⟩ h nx a w :=
  ⟨hs.hs, tops_rels hs.sl, hs.df, hs.nx⟩

theorem wp_of_exploreF {P : Program} {env : Env} {X : XCtr} {w0 : Anchor} (hP : Plain P) (hM : P.follows .mixedOrders = true) (hX : ExtOk P env w0 (X.toExt P)) {fuel n : Nat} {f : FuncId} {c : Code} {fr : Fr} {h : CHeap} {nx : Nat} {fs : Facts} {js : List Nat} {l : List Leaf}
    (hfit : InBody P f (loopsOf c)) (he : exploreF P X fuel (.code f c fr) h nx n fs js = .ok l) (hf : fs.Hold env) {ρ : PMap} {a : Act} {w : World} (hs : Sat env w0 ρ fr (cden h) nx a w) {K : Exit → Act → World → Prop}
    (hl : ∀ q ∈ l, q.fs.Hold env → (∀ e ∈ q.vcs, e.den env) ∧ ∀ ρ' a' w', ρ.le ρ' → Sat env w0 ρ' q.fr (cden q.h) q.nx a' w' → K q.ex.den a' w') : c.wp P K a w := by
  unfold exploreF at he
  cases hx : explore P X fuel (.code f c fr) h nx n fs with
  | error e => rw [hx] at he; cases he
  | ok l0 =>
    rw [hx] at he
    simp only at he
    injection he with he
    subst he
    refine wp_of_explore hP hM hX hfit hx hf hs fun q hq hqf => ?_
    obtain ⟨h1, h2⟩ := hl (q.forget js) (List.mem_map.2 ⟨q, hq, rfl⟩) hqf
    exact ⟨h1, fun ρ' a' w' hle hs' => h2 ρ' a' w' hle (hs'.forget js)⟩

/-- A world of which all blocks stay. -/
theorem HSat.later {env : Env} {w0 : Anchor} {ρ : PMap} {h : Heap} {w w' : World} (H : HSat env w0 ρ h w) (hk : Kept (anchor w) w') : HSat env w0 ρ h w' := by
  refine ⟨⟨hk.os.trans H.below.os, hk.tape.trans H.below.tape, hk.output.trans H.below.output, Nat.le_trans H.below.size hk.size, fun k hkk => ?_⟩, fun n o hn => ?_, H.inj, ?_, H.fz.keep rfl (fun b x _ hx => (hk.block b (Array.getElem?_eq_some_iff.1 hx).1).trans hx) (fun m x q' hm hx hq' => .inl ⟨m, x, q', hm, hx, hq', rfl⟩)⟩
  rotate_left 2
  · obtain ⟨μ, hA⟩ := H.abs
    refine ⟨μ, hA.keep (PMap.le_refl ρ) (fun _ _ _ _ h => h) (fun m k st refs p' c hm hp' hc => hk.block c ?_) hk.size (fun _ h => h) (fun m x q' hm hx hq' => .inl ⟨m, x, q', hm, hx, hq', rfl⟩)⟩
    rcases hc with rfl | hc
    · obtain ⟨q, bb, hq, _, hqw⟩ := (H.objs m _ hm).place rfl
      rw [hp'] at hq; injection hq with hq; subst hq
      exact (Array.getElem?_eq_some_iff.1 hqw).1
    · exact (hA.own m k st refs c hm hc).1
  · have h1 : k < w.heap.size := Nat.lt_of_lt_of_le (w0.lt k hkk) H.below.size
    exact (hk.block k h1).trans (H.below.block k hkk)
  · refine (H.objs n o hn).keep (PMap.le_refl ρ) (fun p ho hp => ?_) (fun h _ => h)
    obtain ⟨q, b, hq, _, hb⟩ := (H.objs n o hn).place ho
    have : q = p := by rw [hp] at hq; exact (Option.some.inj hq).symm
    subst this
    exact hk.block q.block (Array.getElem?_eq_some_iff.1 hb).1

theorem Kept.trans {a b c : World} (h : Kept (anchor a) b) (k : Kept (anchor b) c) : Kept (anchor a) c :=
  ⟨k.os.trans h.os, k.tape.trans h.tape, k.output.trans h.output, Nat.le_trans h.size k.size, fun i hi => (k.block i (Nat.lt_of_lt_of_le hi h.size)).trans (h.block i hi)⟩

/-- An anchor that leaves some blocks out. -/
def anchorBut (w : World) (ρ : PMap) (B : Nat → Prop) : Anchor := ⟨w, fun k => k < w.heap.size ∧ ¬ B k, fun k => ∃ x, ρ.fz k = some x, fun _ h => h.1⟩
theorem Kept.but {w w' : World} {ρ : PMap} {B : Nat → Prop} (h : Kept (anchorBut w ρ B) w') (hb : ∀ k, B k → w'.heap[k]? = w.heap[k]?) : Kept (anchor w) w' :=
  ⟨h.os, h.tape, h.output, h.size, fun k hk => by
    by_cases e : B k
    · exact hb k e
    · exact h.block k ⟨hk, e⟩⟩

theorem sl_of_mk {env : Env} {ρ : PMap} {ov : List (Nat × SV)} {u : Nat → Value} {N : Nat} {vs : List Value} (h : SV.Rels env ρ (mkSl ov u 0 N) vs) {j : Nat} (hj : j < N) :
    ∃ v, vs[j]? = some v ∧ (match ovGet ov j with | some x => x.Rel env ρ v | none => v = u j) := by
  have hg := mkSl_get (ov := ov) (u := u) N 0 j hj
  rw [Nat.zero_add] at hg
  obtain ⟨v, hv, hr⟩ := h.get hg
  refine ⟨v, hv, ?_⟩
  cases ho : ovGet ov j with
  | some x => rw [ho] at hr; exact hr
  | none => rw [ho] at hr; exact hr
theorem mkSl_length (ov : List (Nat × SV)) (u : Nat → Value) : ∀ (n j : Nat), (mkSl ov u j n).length = n
  | 0, _ => rfl
  | n + 1, j => by simp [mkSl, mkSl_length ov u n]

end Go.Sx
