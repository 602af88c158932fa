/-
  SX, PART 5e: what only reckons.
-/
import Derived.Test.YtckdphmpafopmaaSxOpOkD
import Derived.Laws.StructEq
namespace Go.Sx
open Go.RowKit
set_option linter.unusedVariables false
set_option linter.unusedSimpArgs false

section
variable {P : Program} {env : Env} {w0 : Anchor} {w : World} {ρ : PMap} {h h' : Heap} {nm : Nat}

theorem wrap_in {k : IntKind} {n : Int} (h1 : minK k ≤ n) (h2 : n ≤ maxK k) : k.wrap n = n := by
  cases k <;> simp [IntKind.wrap, IntKind.signed, IntKind.bits, minK, maxK] at * <;> omega

theorem arith_ok {k : IntKind} {e : E} {r : SV} (he : (arith k e).Run env h r h') : h = h' ∧ r.Rel env ρ (.int k (k.wrap (e.den env).I)) := by
  unfold arith at he
  split at he
  · simp only [run_ret] at he
    obtain ⟨rfl, rfl⟩ := he
    exact ⟨rfl, rfl⟩
  · simp only [run_bind, run_vcE, leE_iff, I_il, run_pure] at he
    obtain ⟨_, _, ⟨h1, rfl⟩, _, _, ⟨h2, rfl⟩, rfl, rfl⟩ := he
    refine ⟨rfl, ?_⟩
    simp only [SV.Rel]
    rw [wrap_in h1 h2]

theorem Ii (z : Int) : (Dv.i z).I = z := rfl
theorem Bb (x : Bool) : (Dv.b x).B = x := rfl
theorem Ss (x : ByteArray) : (Dv.s x).S = x := rfl
theorem bytes_tri : ∀ (a b : List UInt8), (!(Op.bytesLess a b || a == b)) = Op.bytesLess b a
  | [], [] => by simp [Op.bytesLess]
  | [], _ :: _ => by simp [Op.bytesLess]
  | _ :: _, [] => by simp [Op.bytesLess]
  | x :: a, y :: b => by
    have ih := bytes_tri a b
    simp only [Op.bytesLess]
    by_cases h1 : x < y
    · have h2 : ¬ y < x := fun h => by simp only [UInt8.lt_iff_toNat_lt] at *; omega
      have h3 : (y == x) = false := by rw [beq_eq_false_iff_ne]; intro e; subst e; simp only [UInt8.lt_iff_toNat_lt] at h1; omega
      simp [h1, h2, h3]
    · by_cases h2 : y < x
      · have h3 : (x == y) = false := by rw [beq_eq_false_iff_ne]; intro e; subst e; simp only [UInt8.lt_iff_toNat_lt] at h2; omega
        have h4 : ((x :: a) == (y :: b)) = false := by rw [beq_eq_false_iff_ne] at h3 ⊢; intro e; injection e with e1 e2; exact h3 e1
        simp only [h1, h2, h3, h4, decide_true, decide_false, Bool.false_and, Bool.or_false, Bool.not_false, Bool.true_or]
      · have e : x = y := by
          have h1' : ¬ x.toNat < y.toNat := fun h => h1 (UInt8.lt_iff_toNat_lt.2 h)
          have h2' : ¬ y.toNat < x.toNat := fun h => h2 (UInt8.lt_iff_toNat_lt.2 h)
          exact UInt8.toNat_inj.1 (by omega)
        subst e
        have h4 : ((x :: a) == (x :: b)) = (a == b) := by simp
        simp only [h1, h4, decide_false, Bool.false_or, beq_self_eq_true, Bool.true_and, ih]

theorem kSame_eq {a b : IntKind} (h : kSame a b = true) : a = b := by cases a <;> cases b <;> first | rfl | (cases h)

theorem B_notE {e : E} : ((notE e).den env).B = !(e.den env).B := by rw [notE, mk1_den]; rfl

theorem bytes_beq (a b : ByteArray) : (a == b) = (a.toList == b.toList) := by
  show (a.data == b.data) = _
  apply Bool.eq_iff_iff.2
  rw [ByteArray.toList_eq, ByteArray.toList_eq, beq_iff_eq, beq_iff_eq]
  exact ⟨fun e => by rw [e], fun e => Array.toList_inj.1 e⟩
theorem partS_ok {t : TypeId} {cs : List SV} {vs : List Value} {off : Nat} {r : SV} {h h' : Heap} (hcs : SV.Rels env ρ cs vs) (he : (partS P t cs off).Run env h r h') : h = h' ∧ ∃ v, (part t vs.toArray off).run P w = .ok v w ∧ r.Rel env ρ v := by
  simp only [partS, run_bind, run_und, run_inf] at he
  obtain ⟨d, _, ⟨hd, rfl⟩, i, _, ⟨hi, rfl⟩, he⟩ := he
  cases ha : isAggD d with
  | true =>
    rw [ha] at he
    simp only [run_bind, takeN_run, run_pure] at he
    obtain ⟨l, _, ⟨rfl, hlen, rfl⟩, rfl, rfl⟩ := he
    refine ⟨rfl, .agg ((vs.drop off).take i.size).toArray, ?_, _, rfl, (hcs.drop off).take i.size⟩
    simp [part, s_isAgg hd, ha, s_size hi, List.extract_eq_take_drop]
  | false =>
    rw [ha] at he
    simp only [run_ofOpt] at he
    obtain ⟨hx, rfl⟩ := he
    obtain ⟨v, hv, hr⟩ := hcs.get hx
    exact ⟨rfl, v, by simp [part, s_isAgg hd, ha, hv], hr⟩
theorem andE_B {a b : E} : ((andE a b).den env).B = ((a.den env).B && (b.den env).B) := by
  unfold andE
  split
  · show _ = (true && _); simp
  · show _ = (_ && true); simp
  · rw [mk2_den]; rfl
theorem beqE_B {a b : E} : ((beqE a b).den env).B = ((a.den env).B == (b.den env).B) := by
  unfold beqE
  split
  · show _ = (true == _); simp
  · show _ = (_ == true); simp
  · rw [B_notE]; show _ = (false == _); simp
  · rw [B_notE]; show _ = (_ == false); simp
  · rw [mk2_den]; rfl
theorem eqFs_ok {d : Nat} {rc : TypeId → SV → SV → Prog E} (hrc : ∀ {t : TypeId} {x y : SV} {v u : Value} {e : E} {h h' : Heap}, x.Rel env ρ v → y.Rel env ρ u → (rc t x y).Run env h e h' → h = h' ∧ (Op.equalIn d t v u).run P w = .ok (e.den env).B w)
    {xs ys : List SV} {us vs : List Value} (hx : SV.Rels env ρ xs us) (hy : SV.Rels env ρ ys vs) : ∀ {fs : List Field} {e : E} {h h' : Heap}, (eqFs P rc xs ys fs).Run env h e h' →
    h = h' ∧ (Op.eqFields d us.toArray vs.toArray fs).run P w = .ok (e.den env).B w
  | [], e, h, h', he => by
    simp only [eqFs, run_ret] at he
    obtain ⟨rfl, rfl⟩ := he
    exact ⟨rfl, rfl⟩
  | f :: r, e, h, h', he => by
    simp only [eqFs, run_bind, run_must, run_pure] at he
    obtain ⟨_, _, ⟨hn, rfl⟩, a, _, ha, b, _, hb, e1, _, h1, e2, _, h2, rfl, rfl⟩ := he
    obtain ⟨rfl, va, ha1, ha2⟩ := partS_ok (w := w) hx ha
    obtain ⟨rfl, vb, hb1, hb2⟩ := partS_ok (w := w) hy hb
    obtain ⟨rfl, g1⟩ := hrc ha2 hb2 h1
    obtain ⟨rfl, g2⟩ := eqFs_ok hrc hx hy h2
    refine ⟨rfl, ?_⟩
    have hn : f.name ≠ "_" := by simpa using hn
    simp only [Op.eqFields, if_pos hn, Sem.run_bind, ha1, hb1, g1, Result.andThen_ok, andE_B]
    cases (e1.den env).B
    · rfl
    · simpa using g2

set_option maxHeartbeats 1000000 in
theorem eqS_ok : ∀ {d : Nat} {t : TypeId} {x y : SV} {v u : Value} {e : E} {h h' : Heap}, x.Rel env ρ v → y.Rel env ρ u → (eqS P d t x y).Run env h e h' →
    h = h' ∧ (Op.equalIn d t v u).run P w = .ok (e.den env).B w
  | 0, _, _, _, _, _, _, _, _, _, _, he => he.elim
  | d + 1, t, x, y, v, u, e, h, h', hx, hy, he => by
    simp only [eqS, run_bind, run_und] at he
    obtain ⟨ty, _, ⟨hd, rfl⟩, he⟩ := he
    split at he
    case h_1 =>
      simp only [SV.Rel] at hx hy
      subst hx; subst hy
      simp only [run_pure] at he
      obtain ⟨rfl, rfl⟩ := he
      refine ⟨rfl, ?_⟩
      rw [beqE_B]
      simp only [Op.equalIn, Sem.run_bind, s_und hd, Result.andThen_ok, Sem.run_pure]
    case h_3 =>
      simp only [SV.Rel] at hx hy
      subst hx; subst hy
      simp only [run_pure] at he
      obtain ⟨rfl, rfl⟩ := he
      refine ⟨rfl, ?_⟩
      rw [mk2_den]
      simp only [Op.equalIn, Sem.run_bind, s_und hd, Result.andThen_ok, Sem.run_pure, bytes_beq]
      rfl
    case h_2 =>
      simp only [SV.Rel] at hx hy
      subst hx; subst hy
      simp only [run_bind, run_must, run_pure] at he
      obtain ⟨_, _, ⟨hk, rfl⟩, rfl, rfl⟩ := he
      obtain rfl := kSame_eq hk
      refine ⟨rfl, ?_⟩
      rw [mk2_den]
      simp [Op.equalIn, s_und hd, E.den, O2.den, Bb]
    case h_19 =>
      simp only [SV.Rel] at hx hy
      obtain ⟨us, rfl, hus⟩ := hx
      obtain ⟨vs, rfl, hvs⟩ := hy
      simp only [run_bind, run_must] at he
      obtain ⟨_, _, ⟨hs, rfl⟩, he⟩ := he
      have hs : P.stoodInHeld t = false := by simpa using hs
      rename_i fs _ _ _ _
      have hf : P.fieldsOf t = fs := by simp [Program.fieldsOf, hd]
      rw [run_equalIn_struct w d t _ _ (by rw [hf]; exact hd) hs, hf]
      exact eqFs_ok (fun hx hy he => eqS_ok hx hy he) hus hvs he
    all_goals first
      | exact he.elim
      | (simp only [run_pure] at he
         obtain ⟨rfl, rfl⟩ := he
         refine ⟨rfl, ?_⟩
         simp only [SV.Rel] at hx hy
         first
           | (subst hx; subst hy; first | (rw [mk2_den]; simp [Op.equalIn, s_und hd, E.den, O2.den, Bb, bytes_beq]; done) | (simp [Op.equalIn, s_und hd, E.den, O2.den, Bb]; done))
           | (subst hx; obtain ⟨_, _, rfl⟩ := hy; simp [Op.equalIn, s_und hd, E.den, Bb]; done)
           | (subst hy; obtain ⟨_, _, rfl⟩ := hx; simp [Op.equalIn, s_und hd, E.den, Bb]; done)
           | (subst hx; obtain ⟨_, rfl, _⟩ := hy; simp [Op.equalIn, s_und hd, E.den, Bb]; done)
           | (subst hy; obtain ⟨_, rfl, _⟩ := hx; simp [Op.equalIn, s_und hd, E.den, Bb]; done)
           | (subst hx; obtain ⟨_, rfl⟩ := hy; simp [Op.equalIn, s_und hd, E.den, Bb]; done)
           | (subst hy; obtain ⟨_, rfl⟩ := hx; simp [Op.equalIn, s_und hd, E.den, Bb]; done)
           | (subst hx; obtain ⟨_, _, rfl, _⟩ := hy; simp [Op.equalIn, s_und hd, E.den, Bb]; done)
           | (subst hy; obtain ⟨_, _, rfl, _⟩ := hx; simp [Op.equalIn, s_und hd, E.den, Bb]; done))

theorem ne_zero {b : E} (hz : (!((E.o2 .ieq b (.il 0)).den env).B) = true) : ¬ ((b.den env).I = 0) := by
  intro h0
  have : ((E.o2 .ieq b (.il 0)).den env).B = true := by
    show ((b.den env).I == (0 : Int)) = true
    rw [h0]; rfl
  rw [this] at hz; cases hz

theorem eqHead_run {x : SV} {v u : Value} {t : TypeId} (hh : eqHead x = true) (hx : x.Rel env ρ v) :
    binOp .eql t v u = (do pure (.bool (← Op.equal t v u))) ∧ binOp .neq t v u = (do pure (.bool (!(← Op.equal t v u)))) := by
  cases x <;> simp only [eqHead] at hh <;> simp only [SV.Rel] at hx <;> try (cases hh; done)
  all_goals first
    | (subst hx; exact ⟨rfl, rfl⟩)
    | (obtain ⟨_, _, _, rfl, _⟩ := hx; exact ⟨rfl, rfl⟩)
    | (obtain ⟨_, _, rfl, _⟩ := hx; exact ⟨rfl, rfl⟩)
    | (obtain ⟨_, _, rfl⟩ := hx; exact ⟨rfl, rfl⟩)
    | (obtain ⟨_, rfl, _⟩ := hx; exact ⟨rfl, rfl⟩)
    | (obtain ⟨_, rfl⟩ := hx; exact ⟨rfl, rfl⟩)

theorem flOk_some {c : Nat} {x : Int} (hk : flOk c x = true) : ∃ r, FloatKind.f64.format.mul c (FloatKind.f64.nearest x) = some r ∧
    (FloatKind.f64.decode r).toInt .zero = some (flVal c x) ∧ IntKind.i64.min ≤ flVal c x ∧ flVal c x ≤ IntKind.i64.max := by
  unfold flOk at hk
  split at hk
  · rename_i n hn
    have hv : flVal c x = n := by unfold flVal; rw [hn]; rfl
    rw [hv]
    unfold flOut at hn
    split at hn
    · rename_i r hr; exact ⟨r, hr, hn, (of_decide_eq_true hk).1, (of_decide_eq_true hk).2⟩
    · cases hn
  · cases hk

theorem rem_run {t : TypeId} {k : IntKind} {a b : Int} (hne : ¬ (b = 0)) : (binOp .rem t (.int k a) (.int k b)).run P w = .ok (.int k (a.tmod b)) w := by
  simp only [binOp, Op.intDiv, if_neg hne, ne_eq, not_true_eq_false, if_false, Sem.run_pure]

set_option maxHeartbeats 1000000 in
theorem binS_ok (H : HSat env w0 ρ h w) {op : BinOp} {t : TypeId} {x y r : SV} {v u : Value} (hx : x.Rel env ρ v) (hy : y.Rel env ρ u) (he : (binS P op t x y).Run env h r h') :
    SemOk P env w0 ρ nm h' w (binOp op t v u) r := by
  have arr : ∀ {k : IntKind} {e : E} {n : Int}, (arith k e).Run env h r h' → (e.den env).I = n → (binOp op t v u).run P w = .ok (.int k (k.wrap n)) w → SemOk P env w0 ρ nm h' w (binOp op t v u) r := by
    intro k e n h1 h2 h3
    obtain ⟨rfl, hr⟩ := arith_ok (ρ := ρ) h1
    rw [h2] at hr
    exact SemOk.same H h3 hr
  have cmp : ∀ {e : E}, r = .bool e → h = h' → (binOp op t v u).run P w = .ok (.bool (e.den env).B) w → SemOk P env w0 ρ nm h' w (binOp op t v u) r := by
    intro e h1 h2 h3
    subst h1; subst h2
    exact SemOk.same H h3 rfl
  unfold binS at he
  split at he
  -- integers: add, sub, mul, quo
  case h_3 =>
    simp only [SV.Rel] at hx hy; subst hx; subst hy
    simp only [run_bind, run_must] at he
    obtain ⟨_, _, ⟨hk, rfl⟩, he⟩ := he
    obtain rfl := kSame_eq hk
    exact arr he (by rw [mk2_den]) (by simp [binOp, Op.intArith, E.den, O2.den, Ii])
  case h_4 =>
    simp only [SV.Rel] at hx hy; subst hx; subst hy
    simp only [run_bind, run_must] at he
    obtain ⟨_, _, ⟨hk, rfl⟩, he⟩ := he
    obtain rfl := kSame_eq hk
    exact arr he (by rw [mk2_den]) (by simp [binOp, Op.intArith, E.den, O2.den, Ii])
  case h_5 =>
    simp only [SV.Rel] at hx hy; subst hx; subst hy
    simp only [run_bind, run_must] at he
    obtain ⟨_, _, ⟨hk, rfl⟩, he⟩ := he
    obtain rfl := kSame_eq hk
    exact arr he (by rw [mk2_den]) (by simp [binOp, Op.intArith, E.den, O2.den, Ii])
  case h_6 =>
    simp only [SV.Rel] at hx hy; subst hx; subst hy
    simp only [run_bind, run_must, run_vcE, B_notE, mk2_den] at he
    obtain ⟨_, _, ⟨hk, rfl⟩, _, _, ⟨hz, rfl⟩, he⟩ := he
    obtain rfl := kSame_eq hk
    refine arr he (by rw [mk2_den]) ?_
    have hne := ne_zero hz
    simp only [binOp, Op.intDiv, if_neg hne, ne_eq, not_true_eq_false, if_false, Sem.run_pure, E.den, O2.den, Ii]
  case h_7 =>
    simp only [SV.Rel] at hx hy; subst hx; subst hy
    simp only [run_bind, run_must, run_vcE, B_notE, mk2_den, run_pure] at he
    obtain ⟨_, _, ⟨hk, rfl⟩, _, _, ⟨hz, rfl⟩, rfl, rfl⟩ := he
    obtain rfl := kSame_eq hk
    have hne := ne_zero hz
    exact SemOk.same H (rem_run hne) (by simp only [SV.Rel, mk2_den]; rfl)
  all_goals first
    | exact he.elim
    | skip
  all_goals first
    | (-- comparisons of integers
       simp only [SV.Rel] at hx hy; subst hx; subst hy
       simp only [run_bind, run_must, run_pure] at he
       obtain ⟨_, _, ⟨hk, rfl⟩, rfl, rfl⟩ := he
       obtain rfl := kSame_eq hk
       exact cmp rfl rfl (by simp [binOp, Op.intCmp, B_notE, mk2_den, E.den, O2.den, Bb, bne]; done))
    | (-- comparisons of strings
       simp only [SV.Rel] at hx hy; subst hx; subst hy
       simp only [run_pure] at he
       obtain ⟨rfl, rfl⟩ := he
       exact cmp rfl rfl (by simp only [binOp, Op.stringOp, bytes_tri, B_notE, mk2_den, E.den, O2.den, Bb, bytesLt, Sem.run_pure]; done))
    | skip
  case h_14 =>
    simp only [SV.Rel] at hx hy; subst hx; subst hy
    simp only [run_bind, run_vcE, run_pure] at he
    obtain ⟨_, _, ⟨hk, rfl⟩, rfl, rfl⟩ := he
    obtain ⟨r, h1, _⟩ := flOk_some hk
    refine SemOk.same H (v := .float .f64 r) ?_ ?_
    · simp only [binOp, Op.floatArith, FE.den, ne_eq, not_true_eq_false, if_false, Sem.run_bind, Sem.run_pure, Result.andThen_ok, h1]
    · simp only [SV.Rel, FE.den, h1, Option.getD_some]
  case h_15 =>
    simp only [SV.Rel] at hx hy; subst hx; subst hy
    simp only [run_bind, run_vcE, leE_iff, I_il, run_pure, mk2_den, mk1_den] at he
    obtain ⟨_, _, ⟨hk, rfl⟩, rfl, rfl⟩ := he
    simp only [E.den, O2.den, O1.den, Ii, mk1_den] at hk
    refine SemOk.same H (v := .string _) ?_ (by simp only [SV.Rel, mk2_den, E.den, O2.den, Ss]; rfl)
    have hmax : IntKind.i64.max = 9223372036854775807 := by decide
    simp only [binOp, Op.stringOp, hmax]
    rw [if_neg (by omega)]
    rfl
  case h_22 =>
    simp only [run_bind, run_must, run_pure] at he
    obtain ⟨_, _, ⟨hh, rfl⟩, e, _, he, rfl, rfl⟩ := he
    obtain ⟨rfl, h1⟩ := eqS_ok (P := P) (w := w) hx hy he
    refine cmp rfl rfl ?_
    rw [(eqHead_run hh hx).1]
    simp only [Sem.run_bind, Op.equal, Op.maxDepth, h1, Result.andThen_ok, Sem.run_pure]
  case h_23 =>
    simp only [run_bind, run_must, run_pure] at he
    obtain ⟨_, _, ⟨hh, rfl⟩, e, _, he, rfl, rfl⟩ := he
    obtain ⟨rfl, h1⟩ := eqS_ok (P := P) (w := w) hx hy he
    refine cmp rfl rfl ?_
    rw [(eqHead_run hh hx).2]
    simp only [Sem.run_bind, Op.equal, Op.maxDepth, h1, Result.andThen_ok, Sem.run_pure, B_notE]

end
end Go.Sx
