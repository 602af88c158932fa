/-
  A STORE WHOSE OBJECTS EXPIRE: the model's history, as it is computed.
-/
import Derived.Test.YtdlppkhmmclipaaGreatSxObE
namespace Go.Proofs.YtdlppkhmmclipaaGreat.sxObj
open Go.Sx Go.RowKit Go.Proofs.YtdlppkhmmclipaaGreat
set_option linter.unusedVariables false
def exEnt (ops ttl : E) : Facts := [(.uf 142 (pk [ops]), true), (.uf 174 (pk [ops]), true), leT (.il (-1099511627776)) ttl, leT ttl (.il 1099511627776), leT (lenE ops) (.il 400)]
end Go.Proofs.YtdlppkhmmclipaaGreat.sxObj
namespace Go.Proofs.YtdlppkhmmclipaaGreat.sxObj
open Go.Sx
set_option linter.unusedVariables false
end Go.Proofs.YtdlppkhmmclipaaGreat.sxObj
namespace Go.Proofs.YtdlppkhmmclipaaGreat.sxObj
open Go.Sx Go.RowKit Go.Proofs.YtdlppkhmmclipaaGreat
set_option linter.unusedVariables false
set_option linter.unusedSimpArgs false
set_option maxRecDepth 100000
theorem fits18_ok {l : Dv} (h : fits18 l) : okRows l.T := fun r hr => by
  obtain ⟨n, hn, rfl⟩ := mem_row hr; obtain ⟨a, b, _, _, c, _⟩ := h.1 n hn; exact ⟨a, b, c.2⟩
theorem okRows_nil : okRows (Dv.i 0).T := fun _ q => by cases q
theorem mput_mem {q : KQ} {l : List Row} {x r : Row} (h : r ∈ mput q l x) : r = x \/ r ∈ l := by
  unfold mput at h; split at h
  . exact (List.mem_or_eq_of_mem_set h).symm
  . rcases List.mem_append.1 h with h | h
    . exact .inr h
    . exact .inl (List.mem_singleton.1 h)
theorem times_put {l : List Row} {k now : Dv} (h : timesOk (.t l)) (h1 : 0 <= now.I) (h2 : now.I <= 1125899906842624) : timesOk (.t (mput .s l [k, now])) := fun r hr => by
  rcases mput_mem hr with rfl | hr
  . exact ⟨h1, h2⟩
  . exact h r hr
theorem times_at {ks m now : Dv} (h : timesOk m) (h1 : 0 <= now.I) (h2 : now.I <= 1125899906842624) : ∀ n, timesOk (.t (atT ks m now n))
  | 0 => h
  | n + 1 => times_put (times_at h h1 h2 n) h1 h2
structure OpIn (p : Row) : Prop where
  k : okRow (opObj p)
  l : okRows (cc p 9).T
  n : (cc p 9).T.length <= 20
  t0 : 0 <= (cc p 10).I
  t1 : (cc p 10).I <= 1099511627776
structure SpIn (s : Sp) (n : Nat) : Prop where
  k : okRows s.S
  l : s.S.length <= 20 * n
  t : timesOk (.t s.M)
  t0 : 0 <= s.now
  t1 : s.now <= 1099511627776 * n
theorem step_in {ttl : Int} {p : Row} {s : Sp} {n : Nat} (h : SpIn s n) (hp : OpIn p) (hn : n <= 400) : SpIn (spStep ttl p s).1 (n + 1) := by
  obtain ⟨a, b, c, d, e⟩ := h; have e2 : s.now <= 1125899906842624 := by omega
  have same : SpIn s (n + 1) := ⟨a, by omega, c, d, by omega⟩
  unfold spStep; split
  . exact same
  split
  . exact ⟨with_ok (l := .t _) a hp.k, by have := @with_len (.t s.S) (opKey p) (opObj p); simp only [T_t] at this; show (withT _ _ _).length <= _; omega, times_put (now := .i s.now) c d e2, d, by show s.now <= _; omega⟩
  split
  . exact ⟨without_ok (l := .t _) a, by have := @without_len (.t s.S) (opKey p); simp only [T_t] at this; show (withoutT _ _).length <= _; omega, c, d, by show s.now <= _; omega⟩
  split
  . split
    . exact ⟨reps_ok hp.l _ (Nat.le_refl _), by have := @reps_len (cc p 9) (cc p 9).T.length; have := hp.n; show (repsT _ _).length <= _; omega, times_at (now := .i s.now) c d e2 _, d, by show s.now <= _; omega⟩
    . exact same
  split
  . exact ⟨alS_ok (l := .t _) a _, by have := @alS_len (.t s.S) (.t s.M) s.now ttl (.s (opKey p)) false s.S.length; simp only [T_t] at this; show (alST _ _ _ _ _ _ _).length <= _; omega, c, d, by show s.now <= _; omega⟩
  split
  . exact ⟨alS_ok (l := .t _) a _, by have := @alS_len (.t s.S) (.t s.M) s.now ttl (.s ⟨[].toArray⟩) true s.S.length; simp only [T_t] at this; show (alST _ _ _ _ _ _ _).length <= _; omega, c, d, by show s.now <= _; omega⟩
  split
  . exact same
  split
  . have := hp.t0; have := hp.t1; exact ⟨a, by show s.S.length <= _; omega, c, by show 0 <= s.now + _; omega, by show s.now + _ <= _; omega⟩
  . exact same
theorem sp_in {ops : Dv} {ttl : Int} (h : ∀ n, n < ops.T.length -> OpIn (row ops n)) (hl : ops.T.length <= 400) : ∀ n, n <= ops.T.length -> SpIn (spSt ops ttl n) n
  | 0, _ => ⟨okRows_nil, Nat.le_refl _, (fun _ q => by cases q), Int.le_refl _, Int.le_refl _⟩
  | n + 1, hn => step_in (sp_in h hl n (by omega)) (h n (by omega)) (by omega)
theorem op_in {ops : Dv} (h1 : fits35 ops) (h2 : exFine ops) {n : Nat} (hn : n < ops.T.length) : OpIn (row ops n) := by
  obtain ⟨⟨a, b, _, _, c, _⟩, d⟩ := h1.1 n hn; obtain ⟨e, f, g⟩ := h2.1 n hn; exact ⟨⟨a, b, c.2⟩, fits18_ok d, e, f, g⟩
theorem ans_row {ops : Dv} {ttl : Int} {n : Nat} (h : n < ops.T.length) : row (.t (spAnsT ops ttl)) n = (spStep ttl (row ops n) (spSt ops ttl n)).2 := by
  unfold row spAnsT; show ((List.map _ _)[n]?).getD [] = _; rw [List.getElem?_map, List.getElem?_range h]; rfl
theorem ans_len {ops : Dv} {ttl : Int} : (spAnsT ops ttl).length = ops.T.length := by
  unfold spAnsT; rw [List.length_map, List.length_range]
section
variable {o : Env}
end
section
variable {o : Env}
end
end Go.Proofs.YtdlppkhmmclipaaGreat.sxObj

