/-
  SX, PART 14: all paths of a call; a law that returns true.
-/
import Derived.Test.YtckdphmpafopmaaSxExecOk
import Derived.ProofKit
import Derived.OpenShut
import Derived.Carry
import Derived.ChangeSame
namespace Go.Sx
open Go.RowKit
set_option linter.unusedVariables false
set_option linter.unusedSimpArgs false

def Leaf.rr (l : Leaf) (ft : Foot) : RR := ⟨l.ex, l.fr, l.r, l.h, l.nx, l.vcs, ft⟩

theorem Facts.hold_cons {env : Env} {fs : Facts} {e : E} {b : Bool} (h : (e.den env).B = b) (k : fs.Hold env) : Facts.Hold env ((e, b) :: fs) := fun e' b' hm => by
  rcases List.mem_cons.1 hm with h1 | h1
  · injection h1 with h1 h2; subst h1; subst h2; exact h
  · exact k e' b' h1

theorem explore_ok {P : Program} {env : Env} {X : XCtr} {fuel : Nat} {cmd : Cmd} {h : CHeap} {nx : Nat} (hfit : Fits P cmd) (n : Nat) {fs : Facts} {l : List Leaf} (hf : fs.Hold env)
    (he : explore P X fuel cmd h nx n fs = .ok l) : ∃ f ∈ l, f.fs.Hold env ∧ ((∀ e ∈ f.vcs, e.den env) → ∃ ft, Judge P env X h nx (f.rr ft) cmd) := by
  unfold explore at he
  cases hr : run P n X fuel cmd fs h nx [] with
  | error e => rw [hr] at he; cases he
  | ok L =>
    rw [hr] at he
    simp only at he
    injection he with he
    subst he
    obtain ⟨x, hx, h1, h2⟩ := run_ok (P := P) (env := env) (X := X) (n := n) fuel cmd fs h nx [] L hfit hf hr
    exact ⟨_, List.mem_map.2 ⟨x, hx, rfl⟩, h1, fun hv => ⟨x.2.ft, h2.2 hv⟩⟩

/-- A call: one of its paths is the one that is gone, and what that says is so. -/
theorem calls_of_explore {P : Program} {env : Env} {X : XCtr} {w0 : Anchor} (hP : Plain P) (hM : P.follows .mixedOrders = true) (hX : ExtOk P env w0 (X.toExt P)) {fuel n : Nat} {f : FuncId} {args : List SV} {h : CHeap} {nx : Nat} {fs : Facts} {l : List Leaf}
    (he : explore P X fuel (.fn false f args) h nx n fs = .ok l) (hf : fs.Hold env) (hv : ∀ q ∈ l, q.fs.Hold env → ∀ e ∈ q.vcs, e.den env)
    {ρ : PMap} {w : World} {vs : List Value} (hs : HSat env w0 ρ (cden h) w) (hn : ∀ n p, ρ n = some p → n < nx) (ha : SV.Rels env ρ args vs) :
    Calls P f vs.toArray w fun e w' => ∃ q ∈ l, q.fs.Hold env ∧ Post env w0 ρ q.r (cden q.h) q.nx e w' := by
  obtain ⟨q, hq, hqf, hj⟩ := explore_ok (P := P) (env := env) (cmd := .fn false f args) trivial n hf he
  obtain ⟨ft, hj⟩ := hj (hv q hq hqf)
  have hs' := (Ev.sound hP hM hX hj).2 (cden h) (fun _ _ => rfl) ρ w vs hs hn ha
  refine hs'.1.mono fun e w' hp => ⟨q, hq, hqf, ?_⟩
  have e2 : mv (cden h) (cden q.h) ft = cden q.h := by
    funext n
    unfold mv
    by_cases hm : n ∈ ft.wr
    · rw [if_pos hm]
    · rw [if_neg hm]; exact (hj.loc.1 n hm).symm
  have hp' : Post env w0 ρ q.r (mv (cden h) (cden q.h) ft) q.nx e w' := hp
  rw [e2] at hp'
  exact hp'

/-! ## A law that returns true, and its row -/
section
open Go.ChangeShapes Go.WideShapes Go.ChangeAt
variable {H : Type} {enc : TypeId × Value → H} {P : Program}

theorem trodAll_stays (hl : laidOutB P = true) {W W' : World} (hb : Below W.heap.size W W') : ∀ {ts : List TypeId} {vs : List Value} {ds : List (DataW H)} {ps : List MemPlace},
    (∀ t ∈ ts, P.readableRec t = true ∧ t < P.types.size) → (∀ p ∈ ps, p.block < W.heap.size) → DataW.TrodAll enc P W 0 (fun _ => true) true ts vs ds ps →
    DataW.TrodAll enc P W' 0 (fun b => decide (b < W.heap.size)) true ts vs ds ps
  | [], [], [], _, _, _, h => h
  | t :: ts, v :: vs, d :: ds, ps, ht, hp, ⟨p, q, h1, h2, e⟩ => by
    subst e
    exact ⟨p, q, Below.trod hl (ht t (List.mem_cons_self ..)).1 (ht t (List.mem_cons_self ..)).2 h1 hb (fun x hx => hp x (List.mem_append_left _ hx)),
      trodAll_stays hl hb (fun t ht' => ht t (List.mem_cons_of_mem _ ht')) (fun x hx => hp x (List.mem_append_right _ hx)) h2, rfl⟩
  | [], _ :: _, _, _, _, _, h => h.elim
  | [], [], _ :: _, _, _, _, h => h.elim
  | _ :: _, [], _, _, _, _, h => h.elim
  | _ :: _, _ :: _, [], _, _, _, h => h.elim

/-- What the row asks behind a law's call: it gave true, and below the old heap nothing has turned. -/
theorem law_post {f : Func} {s : ChangeSpec} {W W' : World} {args : Array Value} {ds gs : List (DataW H)} {before : List MemPlace} {tb : TypeId}
    (hW : DataW.Whole enc P f.params.toList s.vars false W args.toList ds gs before) (hvars : s.vars = []) (hfn : s.fn H ds = { results := [.lit (.bool true)], args := ds })
    (hres : f.resultTypes = #[tb]) (htb : P.underlying tb = some .bool) (hl : laidOutB P = true) (hp : ∀ t ∈ f.params.toList, P.readableRec t = true ∧ t < P.types.size) (hb : Below W.heap.size W W') :
    s.post enc P f false true false false W args (.bool true) W' := by
  have hlt := hW.lt
  have hW' := hW
  obtain ⟨p, q, hA, hV, rfl, hfz, hnd⟩ := hW
  rw [hvars] at hV
  obtain ⟨rfl, rfl⟩ := trodVars_none hV
  refine ⟨ds, [], p ++ [], [], p, [], hW', ?_, ?_, ?_, hb.frame _, fun h => by cases h⟩
  · rw [hres, List.append_nil, hfn]
    exact trodAll_cons_mk (shut_bool htb _) trodAll_mk0
  · rw [List.append_nil, hfn]
    exact trodAll_stays hl hb hp (fun x hx => hlt x (List.mem_append_left _ hx)) hA
  · rw [List.append_nil, hfn, hvars]
    rfl
end
end Go.Sx
