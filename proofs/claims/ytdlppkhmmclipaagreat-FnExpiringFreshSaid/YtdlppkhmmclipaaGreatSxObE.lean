/-
  A STORE WHOSE OBJECTS EXPIRE: the contracts of the model's loops.
-/
import Derived.Test.YtdlppkhmmclipaaGreatSxObC
namespace Go.Proofs.YtdlppkhmmclipaaGreat.sxObj
open Go.Sx Go.RowKit Go.Proofs.YtdlppkhmmclipaaGreat
set_option linter.unusedVariables false
def bigE : E := .il 1125899906842624
end Go.Proofs.YtdlppkhmmclipaaGreat.sxObj
namespace Go.Proofs.YtdlppkhmmclipaaGreat.sxObj
open Go.Sx
set_option linter.unusedVariables false
end Go.Proofs.YtdlppkhmmclipaaGreat.sxObj
namespace Go.Proofs.YtdlppkhmmclipaaGreat.sxObj
open Go.Sx Go.RowKit Go.Proofs.YtdlppkhmmclipaaGreat
set_option linter.unusedVariables false
set_option linter.unusedSimpArgs false
set_option maxRecDepth 100000
theorem mfind_lt {q : KQ} {k : Dv} : ∀ {l : List Row} {i : Nat}, mfind q k l = some i -> i < l.length
  | r :: l, i, h => by
    unfold mfind at h; cases hq : q.eq (r.headD (.i 0)) k with
    | true => rw [hq] at h; cases h; exact Nat.succ_pos _
    | false =>
      rw [hq] at h; simp only [cond_false, Option.map_eq_some_iff] at h; obtain ⟨j, hj, rfl⟩ := h; exact Nat.succ_lt_succ (mfind_lt hj)
theorem mfI_lt {q : KQ} {k : Dv} {l : List Row} (h : 0 <= mfindI q k l) : (mfindI q k l).toNat < l.length := by
  unfold mfindI at h ⊢; split
  . rename_i i hi; have := mfind_lt hi; omega
  . rename_i hn; rw [hn] at h; exact absurd h (by decide)
theorem with_ok {l : Dv} {k : ByteArray} {x : Row} (h : okRows l.T) (hx : okRow x) : okRows (withT l k x) := fun r hr => by
  unfold withT at hr; rcases List.mem_append.1 hr with h1 | h1
  . exact h r (List.mem_of_mem_take h1)
  . rcases List.mem_cons.1 h1 with h2 | h2
    . rw [h2]; exact hx
    . exact h r (List.mem_of_mem_drop h2)
theorem with_len {l : Dv} {k : ByteArray} {x : Row} : (withT l k x).length <= l.T.length + 1 := by
  unfold withT; rw [List.length_append, List.length_cons, List.length_take, List.length_drop]; split <;> omega
theorem without_ok {l : Dv} {k : ByteArray} (h : okRows l.T) : okRows (withoutT l k) := fun r hr => by
  unfold withoutT at hr; split at hr
  . rcases List.mem_append.1 hr with h1 | h1
    . exact h r (List.mem_of_mem_take h1)
    . exact h r (List.mem_of_mem_drop h1)
  . exact h r hr
theorem without_len {l : Dv} {k : ByteArray} : (withoutT l k).length <= l.T.length := by
  unfold withoutT; split
  . rw [List.length_append, List.length_take, List.length_drop]; omega
  . exact Nat.le_refl _
section
variable {l m : Dv} {now ttl : Int} {only : Dv} {all : Bool}
theorem alS_ok (h : okRows l.T) : ∀ n, okRows (alST l m now ttl only all n)
  | 0 => h
  | n + 1 => by
    unfold alST; split
    . exact without_ok (l := .t _) (alS_ok h n)
    . exact alS_ok h n
theorem alS_len : ∀ n, (alST l m now ttl only all n).length <= l.T.length
  | 0 => Nat.le_refl _
  | n + 1 => by
    unfold alST; split
    . exact Nat.le_trans without_len (alS_len n)
    . exact alS_len n
theorem atV_ok {k : ByteArray} (h : timesOk m) : 0 <= atV m k /\ atV m k <= 1125899906842624 := by
  unfold atV; split
  . rename_i hi; exact h _ (row_mem (mfI_lt hi))
  . omega
end
section
variable {o : Env}
theorem reps_ok {l : Dv} (h : okRows l.T) : ∀ n, n <= l.T.length -> okRows (repsT l n)
  | 0, _ => fun _ q => by cases q
  | n + 1, hn => with_ok (l := .t _) (reps_ok h n (by omega)) (okRow_at h (n := n) (by omega))
theorem reps_len {l : Dv} : ∀ n, (repsT l n).length <= n
  | 0 => Nat.le_refl _
  | n + 1 => Nat.le_trans with_len (Nat.succ_le_succ (reps_len n))
end
section
variable {o : Env}
end
end Go.Proofs.YtdlppkhmmclipaaGreat.sxObj

