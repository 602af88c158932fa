/-
  SX, PART 18: a number of at most 2^50, times 1.2, is one that int64 has.
-/
import Derived.Test.YtagpchabkplggaaSxCore
namespace Go.Sx.Flo
set_option linter.unusedVariables false
set_option linter.unusedSimpArgs false
open Ieee

theorem lp : double.leastPlace = -1074 := by decide
theorem bn : double.binade = 4503599627370496 := by decide
theorem inf : double.infRung = 2047 * 4503599627370496 := by decide
theorem sw : double.signWeight = 9223372036854775808 := by decide

theorem two_pow_log {m : Nat} (h : m ≠ 0) : m < 2 ^ (m.log2 + 1) := Nat.lt_log2_self
theorem cut_even_le (neg : Bool) (n drop : Nat) (k : Nat) (h : n.log2 + 1 ≤ drop + k) (hn : n ≠ 0) (hk : 1 ≤ k) : Toward.even.cut neg n drop ≤ 2 ^ k := by
  unfold Toward.cut
  simp only
  have hlt := two_pow_log hn
  have hlow : n / (1 <<< min drop (n.log2 + 2)) < 2 ^ k := by
    rw [Nat.shiftLeft_eq, Nat.one_mul]
    rw [Nat.div_lt_iff_lt_mul (Nat.two_pow_pos _), ← Nat.pow_add]
    refine Nat.lt_of_lt_of_le hlt (Nat.pow_le_pow_right (by decide) ?_)
    omega
  have hb : ∀ b : Bool, b.toNat ≤ 1 := by decide
  have := hb (1 <<< min drop (n.log2 + 2) < 2 * (n % 1 <<< min drop (n.log2 + 2)) || 1 <<< min drop (n.log2 + 2) == 2 * (n % 1 <<< min drop (n.log2 + 2)) && n / 1 <<< min drop (n.log2 + 2) % 2 == 1)
  omega

theorem nearest_le (neg : Bool) (mag : Nat) (place : Int) (E : Int) (hE : -1000 ≤ E) (hE2 : E ≤ 900) (h : place + mag.log2 ≤ E) :
    ∃ r : Nat, double.nearest neg mag place = double.word neg r ∧ (r : Int) ≤ (E + 1024) * 4503599627370496 := by
  unfold Format.nearest
  split
  · exact ⟨0, rfl, by omega⟩
  · rename_i hm
    simp only
    rw [lp, bn, inf]
    have hf : (double.fractionBits : Int) = 52 := by decide
    rw [hf]
    generalize hlast : max (place + (mag.log2 : Int) - 52) (-1074) = last
    have hl1 : last ≤ E - 52 := by omega
    have hl2 : -1074 ≤ last := by omega
    have hl3 : place + (mag.log2 : Int) - 52 ≤ last := by omega
    have hkept : Toward.even.cut neg (mag <<< (place - last).toNat) (last - place).toNat ≤ 2 ^ 53 := by
      have hne : mag <<< (place - last).toNat ≠ 0 := by
        rw [Nat.shiftLeft_eq]
        exact Nat.mul_ne_zero hm (Nat.pos_iff_ne_zero.1 (Nat.two_pow_pos _))
      refine cut_even_le neg _ _ 53 ?_ hne (by decide)
      have hs : (mag <<< (place - last).toNat).log2 < mag.log2 + 1 + (place - last).toNat := by
        refine (Nat.log2_lt hne).2 ?_
        rw [Nat.shiftLeft_eq, Nat.pow_add]
        exact Nat.mul_lt_mul_of_pos_right (two_pow_log hm) (Nat.two_pow_pos _)
      omega
    refine ⟨_, rfl, ?_⟩
    generalize Toward.even.cut neg (mag <<< (place - last).toNat) (last - place).toNat = kept at hkept ⊢
    have h53 : (2 : Nat) ^ 53 = 9007199254740992 := by decide
    rw [h53] at hkept
    have e1 : ((last - -1074).toNat : Int) = last + 1074 := by omega
    have : (min ((last - -1074).toNat * 4503599627370496 + kept) (2047 * 4503599627370496) : Nat) ≤ (last - -1074).toNat * 4503599627370496 + kept := Nat.min_le_left _ _
    omega

theorem read_word (neg : Bool) (r : Nat) (E : Int) (hE0 : -1000 ≤ E) (hE : E ≤ 900) (h : (r : Int) ≤ (E + 1024) * 4503599627370496) :
    ∃ (m : Nat) (i : Int), double.read (double.word neg r) = .number neg m i ∧ m < 9007199254740992 ∧ i ≤ E - 51 := by
  have hr : r < 9223372036854775808 := by omega
  have e1 : (double.word neg r) / double.signWeight % 2 = cond neg 1 0 := by
    unfold Format.word
    rw [sw]
    cases neg
    · simp only [Bool.false_eq_true, if_false, cond_false]; omega
    · simp only [if_true, cond_true]; omega
  have e2 : (double.word neg r) % double.signWeight = r := by
    unfold Format.word
    rw [sw]
    cases neg
    · simp only [Bool.false_eq_true, if_false]; omega
    · simp only [if_true]; omega
  have e3 : (cond neg 1 0 == 1) = neg := by cases neg <;> rfl
  unfold Format.read
  simp only [e1, e2, e3]
  rw [bn, inf, lp]
  split
  · exact ⟨r, -1074, rfl, by omega, by omega⟩
  · rename_i h1
    rw [if_pos (by omega)]
    exact ⟨_, _, rfl, by omega, by omega⟩

theorem flOk_small (x : Int) (h1 : -1125899906842624 ≤ x) (h2 : x ≤ 1125899906842624) : flOk 4608083138725491507 x = true := by
  have hlog : ∀ m : Nat, m ≤ 1125899906842624 → m.log2 ≤ 50 := by
    intro m hm
    by_cases h0 : m = 0
    · subst h0; decide
    · have : m.log2 < 51 := (Nat.log2_lt h0).2 (Nat.lt_of_le_of_lt hm (by decide))
      omega
  obtain ⟨r, hr, hrb⟩ := nearest_le (decide (x < 0)) x.natAbs 0 50 (by decide) (by decide) (by have := hlog x.natAbs (by omega); omega)
  obtain ⟨m, i, hread, hm, hi⟩ := read_word (decide (x < 0)) r 50 (by decide) (by decide) hrb
  have hn : FloatKind.f64.nearest x = double.word (decide (x < 0)) r := hr
  have hc : double.read 4608083138725491507 = .number false 5404319552844595 (-52) := by decide
  -- the product
  have hp : FloatKind.f64.format.mul 4608083138725491507 (FloatKind.f64.nearest x) = some (double.write (.number (false ^^ decide (x < 0)) (5404319552844595 * m) (-52 + i))) := by
    show double.mul _ _ = _
    unfold Format.mul
    rw [hn, hread, hc]
    rfl
  have hmlog : m.log2 ≤ 52 := by
    by_cases h0 : m = 0
    · subst h0; decide
    · have : m.log2 < 53 := (Nat.log2_lt h0).2 (Nat.lt_of_lt_of_le hm (by decide))
      omega
  have hplog : (5404319552844595 * m).log2 ≤ 106 := by
    by_cases h0 : m = 0
    · subst h0; decide
    · have hb : 5404319552844595 * m < 2 ^ 107 := Nat.lt_of_lt_of_le (Nat.mul_lt_mul_of_pos_left hm (by decide)) (by decide)
      have : (5404319552844595 * m).log2 < 107 := (Nat.log2_lt (by omega)).2 hb
      omega
  obtain ⟨r2, hr2, hrb2⟩ := nearest_le (false ^^ decide (x < 0)) (5404319552844595 * m) (-52 + i) 60 (by decide) (by decide) (by omega)
  obtain ⟨m2, i2, hread2, hm2, hi2⟩ := read_word (false ^^ decide (x < 0)) r2 60 (by decide) (by decide) hrb2
  unfold flOk flOut
  rw [hp]
  simp only
  have hw : double.write (.number (false ^^ decide (x < 0)) (5404319552844595 * m) (-52 + i)) = double.word (false ^^ decide (x < 0)) r2 := hr2
  rw [hw]
  have hdec : FloatKind.f64.decode (double.word (false ^^ decide (x < 0)) r2) = .number (false ^^ decide (x < 0)) m2 i2 := hread2
  rw [hdec]
  have hti : (Datum.number (false ^^ decide (x < 0)) m2 i2).toInt .zero = some (signed (false ^^ decide (x < 0)) (Toward.zero.cut (false ^^ decide (x < 0)) (m2 <<< i2.toNat) (-i2).toNat) 0) := rfl
  rw [hti]
  simp only
  have hcut : Toward.zero.cut (false ^^ decide (x < 0)) (m2 <<< i2.toNat) (-i2).toNat ≤ 4611686018427387904 := by
    unfold Toward.cut
    simp only [Bool.toNat_false, Nat.add_zero]
    refine Nat.le_trans (Nat.div_le_self _ _) ?_
    rw [Nat.shiftLeft_eq]
    have : 2 ^ i2.toNat ≤ 2 ^ 9 := Nat.pow_le_pow_right (by decide) (by omega)
    calc m2 * 2 ^ i2.toNat ≤ 9007199254740992 * 2 ^ 9 := Nat.mul_le_mul (by omega) this
      _ ≤ 4611686018427387904 := by decide
  generalize Toward.zero.cut (false ^^ decide (x < 0)) (m2 <<< i2.toNat) (-i2).toNat = c at hcut
  have hmin : IntKind.i64.min = -9223372036854775808 := by decide
  have hmax : IntKind.i64.max = 9223372036854775807 := by decide
  rw [hmin, hmax]
  unfold signed
  rw [Nat.shiftLeft_zero]
  apply decide_eq_true
  split <;> omega

end Go.Sx.Flo
