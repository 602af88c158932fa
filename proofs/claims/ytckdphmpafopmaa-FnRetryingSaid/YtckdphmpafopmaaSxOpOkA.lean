/-
  SX, PART 5a: what is read, written and made: the model does it as the symbolic program says.
-/
import Derived.Test.YtckdphmpafopmaaSxSat
namespace Go.Sx
open Go.RowKit
set_option linter.unusedVariables false
set_option linter.unusedSimpArgs false

section
variable {P : Program}
theorem s_und {t : TypeId} {d : TypeDesc} (h : P.underlying t = some d) (w : World) : (underlying t).run P w = .ok d w := by
  simp [underlying, h]
theorem s_inf {t : TypeId} {i : TypeInfo} (h : P.info? t = some i) (w : World) : (typeInfo t).run P w = .ok i w := by
  have : P.toTables.info? t = some i := h
  simp [typeInfo, this]
theorem s_size {t : TypeId} {i : TypeInfo} (h : P.info? t = some i) (w : World) : (sizeOf t).run P w = .ok i.size w := by
  simp [sizeOf, s_inf h]
theorem s_zero {t : TypeId} {i : TypeInfo} {z : Value} (h : P.info? t = some i) (hz : i.zero = some z) (w : World) : (zeroValue t).run P w = .ok z w := by
  simp [zeroValue, s_inf h, hz]
theorem s_isAgg {t : TypeId} {d : TypeDesc} (h : P.underlying t = some d) (w : World) : (isAgg t).run P w = .ok (isAggD d) w := by
  cases d <;> simp [isAgg, s_und h, isAggD]
end

theorem add_at (b o j : Nat) : (⟨b, o, none⟩ : Addr).add j = ⟨b, o + j, none⟩ := by unfold Addr.add; split <;> simp_all

/-! ### constants -/
mutual
theorem ofVal_ok {env : Env} {ρ : PMap} : ∀ (v : Value) {x : SV}, ofVal v = some x → x.Rel env ρ v
  | .bool b, x, h => by simp only [ofVal] at h; injection h with h; subst h; rfl
  | .int k n, x, h => by simp only [ofVal] at h; injection h with h; subst h; rfl
  | .string s, x, h => by
    simp only [ofVal] at h; injection h with h; subst h
    show Value.string s = .string ⟨s.data.toList.toArray⟩
    simp
  | .float .f64 b, x, h => by simp only [ofVal] at h; injection h with h; subst h; rfl
  | .float .f32 b, x, h => by simp only [ofVal] at h; cases h
  | .complex .., x, h => by simp only [ofVal] at h; cases h
  | .pointer none, x, h => by simp only [ofVal] at h; injection h with h; subst h; rfl
  | .pointer (some _), x, h => by simp only [ofVal] at h; cases h
  | .slice none 0 0, x, h => by simp only [ofVal] at h; injection h with h; subst h; rfl
  | .slice (some _) _ _, x, h => by simp only [ofVal] at h; cases h
  | .slice none (_ + 1) _, x, h => by simp only [ofVal] at h; cases h
  | .slice none 0 (_ + 1), x, h => by simp only [ofVal] at h; cases h
  | .map none, x, h => by simp only [ofVal] at h; injection h with h; subst h; rfl
  | .map (some _), x, h => by simp only [ofVal] at h; cases h
  | .chan none, x, h => by simp only [ofVal] at h; injection h with h; subst h; rfl
  | .chan (some _), x, h => by simp only [ofVal] at h; cases h
  | .nilFunc, x, h => by simp only [ofVal] at h; injection h with h; subst h; rfl
  | .nilIface, x, h => by simp only [ofVal] at h; injection h with h; subst h; rfl
  | .iface _ _, x, h => by simp only [ofVal] at h; cases h
  | .func f ⟨[]⟩ ⟨[]⟩, x, h => by simp only [ofVal] at h; injection h with h; subst h; exact ⟨[], [], rfl, rfl, rfl⟩
  | .func f ⟨_ :: _⟩ _, x, h => by simp only [ofVal] at h; cases h
  | .func f ⟨[]⟩ ⟨_ :: _⟩, x, h => by simp only [ofVal] at h; cases h
  | .agg ⟨cs⟩, x, h => by
    simp only [ofVal] at h
    cases hc : ofVals cs with
    | none => rw [hc] at h; cases h
    | some l => rw [hc] at h; injection h with h; subst h; exact ⟨cs, rfl, ofVals_ok cs hc⟩
  | .tuple ⟨cs⟩, x, h => by
    simp only [ofVal] at h
    cases hc : ofVals cs with
    | none => rw [hc] at h; cases h
    | some l => rw [hc] at h; injection h with h; subst h; exact ⟨cs, rfl, ofVals_ok cs hc⟩
theorem ofVals_ok {env : Env} {ρ : PMap} : ∀ (vs : List Value) {l : List SV}, ofVals vs = some l → SV.Rels env ρ l vs
  | [], l, h => by simp only [ofVals] at h; injection h with h; subst h; rfl
  | v :: r, l, h => by
    simp only [ofVals] at h
    cases h1 : ofVal v with
    | none => rw [h1] at h; cases h
    | some x =>
      cases h2 : ofVals r with
      | none => rw [h1, h2] at h; cases h
      | some m => rw [h1, h2] at h; injection h with h; subst h; exact ⟨v, r, rfl, ofVal_ok v h1, ofVals_ok r h2⟩
end

theorem evalS_ok {env : Env} {ρ : PMap} {sl : List SV} {a : Act} (hs : SV.Rels env ρ sl a.tmps.toList) {x : Operand} {s : SV} (h : evalS sl x = some s) :
    s.Rel env ρ (a.eval x) := by
  cases x with
  | tmp t =>
    simp only [evalS, Option.some.injEq] at h
    subst h
    show SV.Rel env ρ _ (a.tmps.getD t undef)
    cases hl : sl[t]? with
    | some y =>
      obtain ⟨v, h1, h2⟩ := hs.get hl
      have : a.tmps[t]? = some v := by simpa using h1
      simp only [Array.getD_eq_getD_getElem?, this, Option.getD_some]
      exact h2
    | none =>
      have hlen := hs.length
      have : sl.length ≤ t := by simpa using hl
      have h2 : a.tmps[t]? = none := by simp at hlen ⊢; omega
      simp only [Array.getD_eq_getD_getElem?, h2, Option.getD_none]
      exact ⟨[], rfl, rfl⟩
  | const v => exact ofVal_ok v h
  | global g => cases h
  | func f => simp only [evalS, Option.some.injEq] at h; subst h; exact ⟨[], [], rfl, rfl, rfl⟩

/-! ### cells -/
theorem SV.one_ok {env : Env} {ρ : PMap} {x : SV} {v : Value} (h : x.one = true) (hr : x.Rel env ρ v) : v.oneCell' = true := by
  cases x <;> simp only [SV.one] at h <;> simp only [SV.Rel] at hr <;> try (cases h; done)
  all_goals first
    | (subst hr; rfl)
    | (obtain ⟨_, _, _, rfl, _⟩ := hr; rfl)
    | (obtain ⟨_, _, rfl, _⟩ := hr; rfl)
    | (obtain ⟨_, _, rfl⟩ := hr; rfl)
    | (obtain ⟨_, rfl, _⟩ := hr; rfl)
    | (obtain ⟨_, rfl⟩ := hr; rfl)

/-- A value's cells. -/
theorem cells_ok {env : Env} {ρ : PMap} {x : SV} {v : Value} (hv : x.shut = true) (hr : x.Rel env ρ v) : SV.Rels env ρ x.cells v.cells.toList := by
  cases x with
  | agg l =>
    simp only [SV.Rel] at hr
    obtain ⟨y, rfl, hy⟩ := hr
    exact hy
  | val c i => cases hv
  | top => cases hv
  | cst _ => cases hv
  | _ =>
    have hc : v.cells = #[v] := by
      simp only [SV.Rel] at hr
      first
        | (subst hr; rfl)
        | (obtain ⟨_, _, _, rfl, _⟩ := hr; rfl)
        | (obtain ⟨_, _, rfl, _⟩ := hr; rfl)
        | (obtain ⟨_, _, rfl⟩ := hr; rfl)
        | (obtain ⟨_, rfl, _⟩ := hr; rfl)
        | (obtain ⟨_, rfl⟩ := hr; rfl)
    rw [hc]
    exact ⟨v, [], rfl, hr, rfl⟩

theorem one_not_val {x : SV} (h : x.cells.all SV.one = true) : x.shut = true := by
  cases x <;> simp [SV.cells, SV.one, SV.shut] at h ⊢

theorem takeN_run {env : Env} {l : List SV} {j n : Nat} {r : List SV} {h h' : Heap} : (takeN l j n).Run env h r h' ↔ r = (l.drop j).take n ∧ r.length = n ∧ h = h' := by
  simp only [takeN, run_bind, run_must, run_pure]
  constructor
  · rintro ⟨_, _, ⟨h1, rfl⟩, rfl, rfl⟩; exact ⟨rfl, Nat.eq_of_beq_eq_true h1, rfl⟩
  · rintro ⟨rfl, h1, rfl⟩; exact ⟨(), _, ⟨by rw [h1]; exact Nat.beq_refl n, rfl⟩, rfl, rfl⟩

theorem Col.rel_at {env : Env} {ρ : PMap} {col : Col} {e : E} {i : Nat} {v : Value} (hi : (e.den env).I = (i : Int)) (h : (col.at (.il i)).Rel env ρ v) : (col.at e).Rel env ρ v := by
  have hi' : (e.den env).I = ((E.il i).den env).I := hi
  cases col with
  | tc k x j =>
    rw [Col.at, dcellS_rel] at h ⊢
    simp only [E.den, O2.den] at h hi' ⊢
    rw [hi']; exact h
  | dsl ks c =>
    simp only [Col.at, SV.Rel, E.den] at h hi' ⊢
    rw [hi']; exact h
  | _ => simp only [Col.at, SV.Rel, E.den] at h hi' ⊢; rw [hi']; exact h

theorem B_leE {env : Env} {a b : E} : ((leE a b).den env).B = decide ((a.den env).I ≤ (b.den env).I) := by rw [leE, mk2_den]; rfl
theorem B_ltE {env : Env} {a b : E} : ((ltE a b).den env).B = decide ((a.den env).I < (b.den env).I) := by rw [ltE, mk2_den]; rfl
theorem leE_iff {env : Env} {a b : E} : ((leE a b).den env).B = true ↔ (a.den env).I ≤ (b.den env).I := by rw [B_leE]; exact decide_eq_true_iff
theorem ltE_iff {env : Env} {a b : E} : ((ltE a b).den env).B = true ↔ (a.den env).I < (b.den env).I := by rw [B_ltE]; exact decide_eq_true_iff
theorem I_il {env : Env} {z : Int} : ((E.il z).den env).I = z := rfl
theorem inB_run {env : Env} {i len : E} {u : Unit} {h h' : Heap} : (inB i len).Run env h u h' ↔ (0 ≤ (i.den env).I ∧ (i.den env).I < (len.den env).I) ∧ h = h' := by
  simp only [inB, run_bind, run_vcE, leE_iff, ltE_iff, I_il]
  constructor
  · rintro ⟨_, _, ⟨h1, rfl⟩, h2, rfl⟩; exact ⟨⟨h1, h2⟩, rfl⟩
  · rintro ⟨⟨h1, h2⟩, rfl⟩; exact ⟨(), _, ⟨h1, rfl⟩, h2, rfl⟩

/-- The columns' values at an index, out of a list that has them. -/
theorem cols_at {env : Env} {ρ : PMap} {i : E} {k : Nat} (hi : (i.den env).I = (k : Int)) : ∀ (cols : List Col) (f : Nat → Option Value),
    (∀ (j : Nat) (col : Col), cols[j]? = some col → ∃ v, f j = some v ∧ (col.at (.il k)).Rel env ρ v) →
    ∃ vs, SV.Rels env ρ (cols.map (·.at i)) vs ∧ ∀ j v, vs[j]? = some v → f j = some v
  | [], f, _ => ⟨[], rfl, fun j v h => by simp at h⟩
  | c :: r, f, h => by
    obtain ⟨v, h1, h2⟩ := h 0 c rfl
    obtain ⟨vs, h3, h4⟩ := cols_at hi r (fun j => f (j + 1)) (fun j col hj => h (j + 1) col (by simpa using hj))
    refine ⟨v :: vs, ⟨v, vs, rfl, Col.rel_at hi h2, h3⟩, fun j u hu => ?_⟩
    cases j with
    | zero => simp at hu; subst hu; exact h1
    | succ j => exact h4 j u (by simpa using hu)

theorem nat?_ok {env : Env} {e : E} {n : Nat} (h : nat? e = some n) : (e.den env).I = (n : Int) := by
  unfold nat? at h
  split at h
  · injection h with h; subst h; rfl
  · cases h

theorem flatten_get {α : Type} {sz : Nat} : ∀ {l : List (List α)} {k : Nat} {x : List α}, (∀ t ∈ l, t.length = sz) → l[k]? = some x → (l.flatten.drop (k * sz)).take sz = x
  | [], _, _, _, h => by simp at h
  | y :: r, 0, x, hl, h => by
    simp at h; subst h
    have : y.length = sz := hl y (List.mem_cons_self ..)
    simp [← this]
  | y :: r, k + 1, x, hl, h => by
    have hy : y.length = sz := hl y (List.mem_cons_self ..)
    have := flatten_get (l := r) (k := k) (fun t ht => hl t (List.mem_cons_of_mem _ ht)) (by simpa using h)
    rw [List.flatten_cons, Nat.succ_mul, Nat.add_comm, ← List.drop_drop, ← hy, List.drop_left, hy]
    exact this

theorem get_drop_take {l : List Value} {a n j : Nat} {v : Value} (h : ((l.drop a).take n)[j]? = some v) : l[a + j]? = some v ∧ j < n := by
  rw [List.getElem?_take] at h
  split at h
  · rw [List.getElem?_drop] at h; exact ⟨h, by assumption⟩
  · cases h

theorem pickN_ok {env : Env} {i : E} : ∀ {m k : Nat} {b : Nat} {h h' : Heap}, (pickN i k m).Run env h b h' → h = h' ∧ (i.den env).I = (b : Int)
  | 0, _, _, _, _, he => he.elim
  | m + 1, k, b, h, h', he => by
    simp only [pickN, run_bind, run_decE] at he
    obtain ⟨t, _, ⟨ht, rfl⟩, he⟩ := he
    cases t with
    | true =>
      simp only [run_pure] at he
      obtain ⟨rfl, rfl⟩ := he
      rw [mk2_den] at ht
      have ht : ((i.den env).I == (k : Int)) = true := ht
      exact ⟨rfl, by simpa using ht⟩
    | false => exact pickN_ok he
theorem idxN_ok {env : Env} {i : E} {n b : Nat} {h h' : Heap} (he : (idxN i n).Run env h b h') : h = h' ∧ (i.den env).I = (b : Int) := by
  unfold idxN at he
  cases hn : nat? i with
  | some c =>
    rw [hn] at he
    simp only [run_ret] at he
    obtain ⟨rfl, rfl⟩ := he
    exact ⟨rfl, nat?_ok hn⟩
  | none => rw [hn] at he; exact pickN_ok he
/-- What 'cellsAt' gives is what lies there. -/
theorem cellsAt_ok {env : Env} {w0 : Anchor} {w : World} {ρ : PMap} {h h' : Heap} (H : HSat env w0 ρ h w) {n : Nat} {o : SObj} (hn : hget h n = some o) {p : Pl} (hp : ρ n = some p)
    {off : Off} {cnt : Nat} {l : List SV} (he : (cellsAt o off cnt).Run env h l h') :
    h = h' ∧ ∃ vs, SV.Rels env ρ l vs ∧ vs.length = cnt ∧ ∀ j v, vs[j]? = some v → w.cell? ((⟨p.block, p.base + off.den env, none⟩ : Addr).add j) = some v := by
  have hobj := H.objs n o hn
  cases o with
  | cells T cs =>
    cases off with
    | el i s j => simp [cellsAt, Prog.Run] at he
    | c j =>
      simp only [cellsAt, takeN_run] at he
      obtain ⟨rfl, hlen, rfl⟩ := he
      obtain ⟨q, vs, h1, h2, h3, h4, h5, h6⟩ := hobj
      obtain rfl : q = p := by rw [hp] at h1; exact (Option.some.inj h1).symm
      have hr := (h5.drop j).take cnt
      refine ⟨rfl, _, hr, by rw [hr.length]; exact hlen, fun k v hk => ?_⟩
      obtain ⟨hk1, hk2⟩ := get_drop_take hk
      rw [add_at, cell_of h6, h3]
      simp only [Off.den, Nat.zero_add]
      simpa using hk1
  | row T sz len cols tail =>
    cases off with
    | c j => simp [cellsAt, Prog.Run] at he
    | el i s j =>
      obtain ⟨q, vs, rest, h1, h2, h3, h4, ⟨base, tl, rfl, hb1, hb2, hb3, hb4, hb5⟩, h6, h7⟩ := hobj
      obtain rfl : q = p := by rw [hp] at h1; exact (Option.some.inj h1).symm
      simp only [cellsAt, run_bind, run_must] at he
      obtain ⟨_, _, ⟨hsz, rfl⟩, he⟩ := he
      obtain rfl := Nat.eq_of_beq_eq_true hsz
      -- out of the given part
      have given : ∀ k : Nat, (i.den env).I = (k : Int) → k < (len.den env).I.toNat → ∀ r, r = ((cols.map (·.at i)).drop j).take cnt → r.length = cnt →
          ∃ vs, SV.Rels env ρ r vs ∧ vs.length = cnt ∧ ∀ j' v, vs[j']? = some v → w.cell? ((⟨q.block, q.base + (Off.el i sz j).den env, none⟩ : Addr).add j') = some v := by
        intro k hk hlt r hr hrl
        obtain ⟨us, hus, hget⟩ := cols_at hk cols (fun jj => base[k * sz + jj]?) (fun jj col hc => hb2 k hlt jj col hc)
        have hr2 := (hus.drop j).take cnt
        rw [← hr] at hr2
        refine ⟨_, hr2, by rw [hr2.length]; exact hrl, fun jj v hv => ?_⟩
        obtain ⟨hv1, hv2⟩ := get_drop_take hv
        have := hget _ _ hv1
        rw [add_at, cell_of h7, h3]
        simp only [Off.den, hk, Int.toNat_natCast, Nat.zero_add]
        have hlt2 : k * sz + (j + jj) < base.length := by
          obtain ⟨hx, _⟩ := List.getElem?_eq_some_iff.1 this
          exact hx
        rw [List.getElem?_toArray, Nat.add_assoc, List.append_assoc, List.getElem?_append_left hlt2]
        exact this
      cases tail with
      | nil =>
        simp only [inB_run, takeN_run, run_bind] at he
        obtain ⟨_, _, ⟨⟨hi0, hi1⟩, rfl⟩, hl, hlen, rfl⟩ := he
        obtain ⟨k, hk⟩ : ∃ k : Nat, (i.den env).I = (k : Int) := ⟨(i.den env).I.toNat, by omega⟩
        obtain ⟨us, g1, g2, g3⟩ := given k hk (by omega) l hl hlen
        exact ⟨rfl, us, g1, g2, g3⟩
      | cons t0 tr =>
        simp only [run_bind, run_ofOpt] at he
        obtain ⟨a, _, ⟨ha, rfl⟩, b, _, hb, he⟩ := he
        have hA := nat?_ok (env := env) ha
        obtain ⟨rfl, hB⟩ := idxN_ok hb
        cases hlt : Nat.blt b a with
        | true =>
          rw [hlt] at he
          simp only [takeN_run] at he
          obtain ⟨hl, hlen, rfl⟩ := he
          have hba : b < a := by simp [Nat.blt] at hlt; omega
          obtain ⟨us, g1, g2, g3⟩ := given b hB (by rw [hA]; simpa using hba) l hl hlen
          exact ⟨rfl, us, g1, g2, g3⟩
        | false =>
          rw [hlt] at he
          simp only [run_bind, run_ofOpt, takeN_run] at he
          obtain ⟨x, _, ⟨hx, rfl⟩, hl, hlen, rfl⟩ := he
          have hba : a ≤ b := by
            have : ¬ b < a := fun hh => by
              have : Nat.blt b a = true := by simp [Nat.blt]; omega
              rw [this] at hlt; cases hlt
            omega
          have hxl := flatten_get (k := b - a) hb4 hx
          have hr := ((hb3.drop ((b - a) * sz)).take sz)
          rw [hxl] at hr
          have hr2 := (hr.drop j).take cnt
          rw [← hl] at hr2
          refine ⟨rfl, _, hr2, by rw [hr2.length]; exact hlen, fun jj v hv => ?_⟩
          obtain ⟨hv1, hv2⟩ := get_drop_take hv
          obtain ⟨hv3, hv4⟩ := get_drop_take hv1
          rw [add_at, cell_of h7, h3]
          simp only [Off.den, hB, Int.toNat_natCast, Nat.zero_add]
          have hbl : base.length = a * sz := by rw [hb1, hA]; simp
          have e : b * sz + j + jj = base.length + ((b - a) * sz + (j + jj)) := by
            have : b * sz = a * sz + (b - a) * sz := by rw [← Nat.add_mul]; congr 1; omega
            omega
          rw [List.getElem?_toArray, e, List.append_assoc, List.getElem?_append_right (by omega), Nat.add_sub_cancel_left]
          obtain ⟨hx1, _⟩ := List.getElem?_eq_some_iff.1 hv3
          rw [List.getElem?_append_left hx1]
          exact hv3
  | inp sz len cols =>
    cases off with
    | c j => simp [cellsAt, Prog.Run] at he
    | el i s j =>
      obtain ⟨q, h1, h2, h3, h4, h5⟩ := hobj
      obtain rfl : q = p := by rw [hp] at h1; exact (Option.some.inj h1).symm
      simp only [cellsAt, run_bind, run_must, inB_run, takeN_run] at he
      obtain ⟨_, _, ⟨hsz, rfl⟩, _, _, ⟨⟨hi0, hi1⟩, rfl⟩, hl, hlen, rfl⟩ := he
      obtain rfl := Nat.eq_of_beq_eq_true hsz
      obtain ⟨k, hk⟩ : ∃ k : Nat, (i.den env).I = (k : Int) := ⟨(i.den env).I.toNat, by omega⟩
      have hnil : q.nil = false := by
        cases hq : q.nil with
        | false => rfl
        | true => have := h3 hq; omega
      have hblk := h4 (by omega)
      obtain ⟨us, hus, hget⟩ := cols_at hk cols (fun jj => w0.w.cell? ⟨q.block, q.base + k * sz + jj, none⟩) (fun jj col hc => h5 k (by omega) jj col hc)
      have hr2 := (hus.drop j).take cnt
      rw [← hl] at hr2
      refine ⟨rfl, _, hr2, by rw [hr2.length]; exact hlen, fun jj v hv => ?_⟩
      obtain ⟨hv1, hv2⟩ := get_drop_take hv
      have := hget _ _ hv1
      rw [add_at, H.below.cell (p := ⟨q.block, _, none⟩) hblk]
      simp only [Off.den, hk, Int.toNat_natCast]
      rw [← this]
      congr 2
      omega
  | map => simp [cellsAt, Prog.Run] at he
  | abs => simp [cellsAt, Prog.Run] at he
  | chan => simp [cellsAt, Prog.Run] at he
  | resv => simp [cellsAt, Prog.Run] at he
  | gone => simp [cellsAt, Prog.Run] at he

end Go.Sx
