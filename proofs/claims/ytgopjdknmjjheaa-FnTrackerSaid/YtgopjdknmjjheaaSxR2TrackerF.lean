/-
  THE LAW FnTracker (proved): over every history of counts begun and ended, the package's trackers answer as the model does. No conditions beside the law's own guards.
-/
import Derived.Test.YtgopjdknmjjheaaSxR2TrackerE
namespace Go.Proofs.Ytgopjdknmjjheaa.sxTracker
open Go.Sx Go.RowKit
set_option linter.unusedVariables false
set_option linter.unusedSimpArgs false
set_option maxRecDepth 100000

/-! ### the law -/
def ks : List PK := [.bool, .rows 2 [.int .i64, .str]]
def okVcs : List Ob → Bool
  | [] => true
  | [.mp .str 0 ix [] 1 ix' [(.str k', .may b (.bool (.bl true)))]] => ix.same (.il 0) && (ix'.same (.v 2000) && (k'.same (.fn 33 (.v 2000)) && b.same (.fn 1005 (.v 2000))))
  | _ => false
def okLeaf (q : Leaf) : Bool :=
  (match q.r with | .bool (.bl true) => true | _ => false) && okVcs q.vcs
theorem law_paths : (match explore Try.prog ctr.x 200 (.fn false 3 (symArgs ks 0)) (symHeap ks 0) ks.length 60 (fs0 ++ symFacts ks 0) with | .ok l => l.all okLeaf | .error _ => false) = true := by kernel_rfl

/-- The families that are no inputs. -/
def ex (single : Bool) (K : Nat → Int) (S : Nat → ByteArray) (n : Nat) : Env where
  v c := if c = 3000 then .b (decide (stop (bad1 S) n < n)) else if c = 3001 then .i (stop (bad1 S) n) else if c = 3002 then .b (decide (stop (bad2 K S) n < n)) else if c = 3003 then .i (stop (bad2 K S) n) else .i 0
  fn c i :=
    if c = 1000 then .i (ans single K S i.toNat) else if c = 1001 then .b (stAt single K S i.toNat).up else if c = 1002 then .b (stAt single K S i.toNat).synced
    else if c = 1003 then .i (stAt single K S i.toNat).count else if c = 1004 then .i (stAt single K S i.toNat).n else if c = 1005 then .b ((stAt single K S i.toNat).has (S i.toNat))
    else if c = 1011 then .i (cond single (stAt single K S i.toNat).count 0) else if c = 1012 then .b (single && (stAt single K S i.toNat).up) else if c = 1013 then .b (single && (stAt single K S i.toNat).synced)
    else if c = 1014 then .b (!single && (stAt single K S i.toNat).up) else if c = 1015 then .b (!single && (stAt single K S i.toNat).synced) else .b (stAt single K S i.toNat).none
  val _ _ := .nilIface
  mp m i v := match v with
    | .string s => if m = 1 then cond ((stAt single K S i.toNat).has s) (some (.bool true)) none else cond ((stAt single K S i.toNat).has s) (some (.agg #[])) none
    | _ => none
  ab _ _ _ _ _ _ := True

theorem is_ok (W : World) (single : Bool) (A : Option Addr) (len cap : Nat) : ∃ K S, Is (envOf W ks [.bool single, .slice A len cap] (ex single K S len)) single K S len := by
  refine ⟨fun j => (envF W ks [.bool single, .slice A len cap] (fun _ _ => .i 0) 32 j).I, fun j => (envF W ks [.bool single, .slice A len cap] (fun _ _ => .i 0) 33 j).S, ?_⟩
  generalize hK : (fun j : Nat => (envF W ks [.bool single, .slice A len cap] (fun _ _ => .i 0) 32 j).I) = K
  generalize hS : (fun j : Nat => (envF W ks [.bool single, .slice A len cap] (fun _ _ => .i 0) 33 j).S) = S
  exact ⟨rfl, rfl, rfl, rfl, rfl, rfl, rfl, fun j => by rw [← hK]; cases A <;> rfl, fun j => by rw [← hS]; cases A <;> rfl, fun j => rfl, fun j => rfl, fun j => rfl, fun j => rfl, fun j => rfl, fun j => rfl, fun j => rfl, fun j => rfl, fun j => rfl, fun j => rfl, fun j => rfl, fun j => rfl, fun j s => rfl, fun j s => rfl⟩

theorem vcs_ok {o : Env} {single : Bool} {K : Nat → Int} {S : Nat → ByteArray} {n : Nat} (H : Is o single K S n) {l : List Ob} (h : okVcs l = true) : ∀ e ∈ l, e.den o := by
  unfold okVcs at h
  split at h
  · intro e he; cases he
  · rename_i ix ix' k' b
    simp only [Bool.and_eq_true] at h
    obtain ⟨h1, h2, h3, h4⟩ := h
    have h1 := E.same_eq h1
    have h2 := E.same_eq h2
    have h3 := E.same_eq h3
    have h4 := E.same_eq h4
    subst h1; subst h2; subst h3; subst h4
    intro e he
    rcases List.mem_cons.1 he with rfl | he
    · have z0 : (0 : Int) = ((0 : Nat) : Int) := rfl
      have hb : ((E.fn 1005 (.v 2000)).den o).B = (stAt single K S 0).has (S 0) := by
        simp only [d_fn, d_v, H.v2000, I_i]
        rw [z0, H.f1005, B_b]
      have hy : flO o (.may (.fn 1005 (.v 2000)) (.bool (.bl true))) = some (cond ((stAt single K S 0).has (S 0)) (some (.bool true)) none) := by
        rw [← hb]; rfl
      refine mp_den0 hy (fun s => ?_)
      simp only [res_succ, d_fn, d_v, dI_il, H.v2000, I_i]
      rw [z0, H.f33, H.m1]
      by_cases e : s = S 0
      · rw [if_pos e]; rfl
      · rw [if_neg e]; rfl
    · cases he
  · cases h

theorem walk (W : World) (vs : List Value) (hl : vs.length = ks.length) (hall : ∀ (i : Nat) (p : PK) (v : Value), ks[i]? = some p → vs[i]? = some v → p.holds W v) :
    Calls Try.prog 3 vs.toArray W fun e W' => e = .returned (.bool true) ∧ Below W.heap.size W W' := by
  cases he : explore Try.prog ctr.x 200 (.fn false 3 (symArgs ks 0)) (symHeap ks 0) ks.length 60 (fs0 ++ symFacts ks 0) with
  | error e => have := law_paths; rw [he] at this; cases this
  | ok l =>
    have hok := law_paths
    rw [he] at hok
    have hok : l.all okLeaf = true := hok
    obtain ⟨a, b, rfl⟩ : ∃ a b, vs = [a, b] := by
      match vs, hl with
      | [a, b], _ => exact ⟨a, b, rfl⟩
    obtain ⟨single, rfl⟩ := hall 0 _ a rfl rfl
    obtain ⟨A, len, cap, rfl, _⟩ := hall 1 _ b rfl rfl
    obtain ⟨K, S, H⟩ := is_ok W single A len cap
    refine law_main plain mixed (by decide) he hl hall ?_ (ctr_ok H _) ?_
    · simp only [fs0, r, List.map, List.cons_append, List.nil_append, hold_cons_iff, hold_nil_iff, dB_ieq, dI_il, d_v, d_fn, H.v2000, I_i, decide_eq_true_eq, and_true]
      have e0 : (0 : Int) = ((0 : Nat) : Int) := rfl
      rw [e0, H.f1001, H.f1002, H.f1003, H.f1004, H.f1011, H.f1012, H.f1013, H.f1014, H.f1015]
      cases single <;> exact ⟨trivial, rfl, rfl, rfl, rfl, rfl, rfl, rfl, rfl, rfl⟩
    · intro q hq hqf
      have hql := List.all_eq_true.1 hok q hq
      unfold okLeaf at hql
      rw [Bool.and_eq_true] at hql
      refine ⟨vcs_ok H hql.2, .bl true, ?_, rfl⟩
      have := hql.1
      split at this
      · rename_i hr; exact hr
      · cases this

theorem own : ownKnob Try.prog.godebug = none := by kernel_rfl
theorem laid : laidOutB Try.prog = true := by kernel_rfl

theorem contract (H : Type) (enc : TypeId × Value → H) (W : World) (base : Nat) (args : Array Value) (ds gs : List (DataW H)) (before : List MemPlace)
    (hval : ∀ (j : Nat) t v, Try.f3.params[j]? = some t → args[j]? = some v → Value.okWide Try.prog W .any base t v)
    (hW : DataW.Whole enc Try.prog Try.f3.params.toList Rows.fnTrackerSpec.vars false W args.toList ds gs before) :
    Calls Try.prog 3 args W fun e W' => ∃ v, e = .returned v ∧ Rows.fnTrackerSpec.post enc Try.prog Try.f3 false true false false W args v W' :=
  law_contract laid (ks := ks) (tb := 4) (by kernel_rfl) (by kernel_rfl) (by kernel_rfl) (by kernel_rfl) rfl
    (fun ds hd => by
      match ds, hd with
      | [d, e], _ => rfl) (walk W) hval hW

theorem lifted (os : Os) (started : os.Started) (H : Type) (enc : TypeId × Value → H) :
    ReturnsInHanded {} Try.checked os 3 .any (Rows.fnTrackerSpec.pre6 enc Try.prog Try.f3 Rows.fnTrackerRow.domain false) (Rows.fnTrackerSpec.post enc Try.prog Try.f3 false true false false) := by
  refine returnsInHanded_of_change (C := Try.checked) (s := Rows.fnTrackerSpec) own started (by kernel_rfl) Try.func3
    (ChangeSpec.witness6 (enc := enc) (C := Try.checked) false ⟨#[], #[.bool false, .slice none 0 0], []⟩ 8 (by kernel_rfl) (by kernel_rfl) (by kernel_rfl) (by kernel_rfl)) ?_
  intro W base args ds gs before hval hW _ _
  exact contract H enc W base args ds gs before hval hW

theorem proved : Rows.FnTrackerSaid :=
  OpenClaim.holds_of_wide 3 Try.f3 rfl rfl rfl rfl rfl rfl rfl ⟨rfl, rfl, rfl, rfl, rfl⟩ rfl rfl rfl rfl rfl (by kernel_rfl) Try.func3 (by kernel_rfl)
    (of_decide_eq_true (by kernel_rfl)) (by unfold Func.isWrapper; first | (rw [if_pos (by decide +kernel)]; kernel_rfl) | (rw [if_neg (by decide +kernel)]; exact ⟨rfl, rfl⟩))
    (fun os started H enc _ => lifted os started H enc)

end Go.Proofs.Ytgopjdknmjjheaa.sxTracker
#print axioms Go.Proofs.Ytgopjdknmjjheaa.sxTracker.proved
