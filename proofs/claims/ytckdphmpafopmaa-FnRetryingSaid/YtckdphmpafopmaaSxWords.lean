/-
  SX, PART 29: words for obligations: what they say in plain arithmetic.
-/
import Derived.Test.YtckdphmpafopmaaSxLoopH
namespace Go.Sx
set_option linter.unusedVariables false

theorem hold_cons_iff {env : Env} {x : E} {b : Bool} {fs : Facts} : Facts.Hold env ((x, b) :: fs) ↔ (x.den env).B = b ∧ Facts.Hold env fs :=
  ⟨fun h => ⟨h x b (List.mem_cons_self ..), fun y c hm => h y c (List.mem_cons_of_mem _ hm)⟩, fun h => Facts.hold_cons h.1 h.2⟩
theorem hold_nil_iff {env : Env} : Facts.Hold env [] ↔ True := ⟨fun _ => trivial, fun _ x b hx => by cases hx⟩
theorem allT_cons {env : Env} {x : Ob} {l : List Ob} : AllT env (x :: l) ↔ x.den env ∧ AllT env l :=
  ⟨fun h => ⟨h x (List.mem_cons_self ..), fun y hm => h y (List.mem_cons_of_mem _ hm)⟩, fun h y hm => (List.mem_cons.1 hm).elim (fun e => e ▸ h.1) (h.2 y)⟩
theorem allT_nil {env : Env} : AllT env [] ↔ True := ⟨fun _ => trivial, fun _ x hx => by cases hx⟩
/-- All of a loop's obligations, path by path. -/
def AllL (env : Env) : List (Facts × List Ob) → Prop
  | [] => True
  | x :: r => (x.1.Hold env → AllT env x.2) ∧ AllL env r
theorem allL_mem {env : Env} : ∀ {L : List (Facts × List Ob)}, AllL env L → ∀ x ∈ L, x.1.Hold env → AllT env x.2
  | [], _, x, hx => by cases hx
  | y :: r, h, x, hx => by
    rcases List.mem_cons.1 hx with rfl | hx
    · exact h.1
    · exact allL_mem h.2 x hx
theorem allL_cons {env : Env} {f : Facts} {l : List Ob} {r : List (Facts × List Ob)} : AllL env ((f, l) :: r) ↔ (f.Hold env → AllT env l) ∧ AllL env r := Iff.rfl
theorem allL_nil {env : Env} : AllL env [] ↔ True := Iff.rfl
theorem ob_e {env : Env} {x : E} : (Ob.e x).den env ↔ (x.den env).B = true := Iff.rfl
theorem dB_lt {env : Env} {a b : E} : ((E.o2 .lt a b).den env).B = decide ((a.den env).I < (b.den env).I) := id rfl
theorem dB_le {env : Env} {a b : E} : ((E.o2 .le a b).den env).B = decide ((a.den env).I ≤ (b.den env).I) := id rfl
theorem dB_ieq {env : Env} {a b : E} : ((E.o2 .ieq a b).den env).B = decide ((a.den env).I = (b.den env).I) := by
  show ((a.den env).I == (b.den env).I) = _
  by_cases h : (a.den env).I = (b.den env).I <;> simp [h]
theorem dB_beq {env : Env} {a b : E} : ((E.o2 .beq a b).den env).B = ((a.den env).B == (b.den env).B) := id rfl
theorem dB_seq {env : Env} {a b : E} : ((E.o2 .seq a b).den env).B = ((a.den env).S.toList == (b.den env).S.toList) := id rfl
theorem dB_and {env : Env} {a b : E} : ((E.o2 .and a b).den env).B = ((a.den env).B && (b.den env).B) := id rfl
theorem dB_or {env : Env} {a b : E} : ((E.o2 .or a b).den env).B = ((a.den env).B || (b.den env).B) := id rfl
theorem dB_not {env : Env} {a : E} : ((E.o1 .not a).den env).B = !(a.den env).B := id rfl
theorem dB_bl {env : Env} {b : Bool} : ((E.bl b).den env).B = b := id rfl
theorem dI_il {env : Env} {z : Int} : ((E.il z).den env).I = z := id rfl
theorem dI_add {env : Env} {a b : E} : ((E.o2 .add a b).den env).I = (a.den env).I + (b.den env).I := id rfl
theorem dI_sub {env : Env} {a b : E} : ((E.o2 .sub a b).den env).I = (a.den env).I - (b.den env).I := id rfl
theorem dI_mul {env : Env} {a b : E} : ((E.o2 .mul a b).den env).I = (a.den env).I * (b.den env).I := id rfl
theorem dI_mn {env : Env} {a b : E} : ((E.o2 .mn a b).den env).I = if (b.den env).I < (a.den env).I then (b.den env).I else (a.den env).I := id rfl
theorem dI_mx {env : Env} {a b : E} : ((E.o2 .mx a b).den env).I = if (b.den env).I > (a.den env).I then (b.den env).I else (a.den env).I := id rfl
theorem dI_size {env : Env} {a : E} : ((E.o1 .size a).den env).I = ((a.den env).S.size : Int) := id rfl
theorem dS_sl {env : Env} {s : List UInt8} : ((E.sl s).den env).S = ⟨s.toArray⟩ := id rfl
theorem d_v {env : Env} {n : Nat} : (E.v n).den env = env.v n := id rfl
theorem d_fn {env : Env} {c : Nat} {a : E} : (E.fn c a).den env = env.fn c (a.den env).I := id rfl
theorem I_i (z : Int) : (Dv.i z).I = z := id rfl
theorem B_b (z : Bool) : (Dv.b z).B = z := id rfl
theorem S_s (z : ByteArray) : (Dv.s z).S = z := id rfl

theorem res_succ {env : Env} {m : Nat} {i : Int} : res env (m + 1) i = env.mp (m + 1) i := rfl
/-- What is to be shown of a map of which one key is known. -/
theorem mp_den {env : Env} {m m' : Nat} {ix ix' k k' : E} {x x' : KV} {o o' : Option Value} (hx : flO env x = some o) (hx' : flO env x' = some o')
    (h : ∀ s : ByteArray, (if s = (k.den env).S then o else res env m (ix.den env).I (.string s)) = (if s = (k'.den env).S then o' else res env m' (ix'.den env).I (.string s))) :
    (Ob.mp .str m ix [(.str k, x)] m' ix' [(.str k', x')]).den env := by
  have hk : ∀ {k : E} {x : KV} {o : Option Value}, flO env x = some o → flK env [(.str k, x)] = some [(.string (k.den env).S, o)] := by
    intro k x o h
    simp only [flK, SV.fl, h]
  refine ⟨_, _, hk hx, hk hx', fun v hv => ?_⟩
  obtain ⟨s, rfl⟩ := hv
  have hc : ∀ {k : E} {o : Option Value} {r : Value → Option Value}, cont [(.string (k.den env).S, o)] r (.string s) = if s = (k.den env).S then o else r (.string s) := by
    intro k o r
    have hb := keyEq_iff (kk := .str) (a := .string (k.den env).S) (b := .string s) ⟨_, rfl⟩ ⟨_, rfl⟩
    unfold cont cont
    by_cases e : s = (k.den env).S
    · rw [if_pos e, hb.2 (by rw [e])]; rfl
    · rw [if_neg e]
      cases hq : keyEq (.string (k.den env).S) (.string s) with
      | true => have := hb.1 hq; injection this with this; exact absurd this.symm e
      | false => rfl
  rw [hc, hc]
  exact h s
/-- The same where nothing is known on one side. -/
theorem mp_den0 {env : Env} {m m' : Nat} {ix ix' k' : E} {x' : KV} {o' : Option Value} (hx' : flO env x' = some o')
    (h : ∀ s : ByteArray, res env m (ix.den env).I (.string s) = (if s = (k'.den env).S then o' else res env m' (ix'.den env).I (.string s))) :
    (Ob.mp .str m ix [] m' ix' [(.str k', x')]).den env := by
  have hk : flK env [(.str k', x')] = some [(.string (k'.den env).S, o')] := by simp only [flK, SV.fl, hx']
  refine ⟨[], _, rfl, hk, fun v hv => ?_⟩
  obtain ⟨s, rfl⟩ := hv
  have hb := keyEq_iff (kk := .str) (a := .string (k'.den env).S) (b := .string s) ⟨_, rfl⟩ ⟨_, rfl⟩
  simp only [cont]
  rw [h s]
  by_cases e : s = (k'.den env).S
  · rw [if_pos e, hb.2 (by rw [e])]; rfl
  · rw [if_neg e]
    cases hq : keyEq (.string (k'.den env).S) (.string s) with
    | true => have := hb.1 hq; injection this with this; exact absurd this.symm e
    | false => rfl

/-- The first of a number of places at which something is so, or their number. -/
def stop (bad : Nat → Bool) : Nat → Nat
  | 0 => 0
  | n + 1 => if bad 0 then 0 else stop (fun j => bad (j + 1)) n + 1
theorem stop_le {bad : Nat → Bool} : ∀ {n : Nat}, stop bad n ≤ n
  | 0 => Nat.le_refl _
  | n + 1 => by
    unfold stop
    split
    · exact Nat.zero_le _
    · have := stop_le (bad := fun j => bad (j + 1)) (n := n); omega
theorem stop_before {bad : Nat → Bool} : ∀ {n j : Nat}, j < stop bad n → bad j = false
  | 0, j, h => by simp [stop] at h
  | n + 1, j, h => by
    unfold stop at h
    split at h
    · omega
    · rename_i h0
      cases j with
      | zero => simpa using h0
      | succ j => exact stop_before (bad := fun j => bad (j + 1)) (n := n) (j := j) (by omega)
theorem stop_at {bad : Nat → Bool} : ∀ {n : Nat}, stop bad n < n → bad (stop bad n) = true
  | 0, h => by omega
  | n + 1, h => by
    unfold stop at h ⊢
    split at h
    · rename_i h0; rw [if_pos h0]; exact h0
    · rename_i h0
      rw [if_neg h0]
      exact stop_at (bad := fun j => bad (j + 1)) (n := n) (by omega)
end Go.Sx
