/-
  SX, PART 5d: append.
-/
import Derived.Test.YtckdphmpafopmaaSxOpOkC
namespace Go.Sx
open Go.RowKit
set_option linter.unusedVariables false
set_option linter.unusedSimpArgs false

section
variable {P : Program} {env : Env} {w0 : Anchor} {w : World} {ρ : PMap} {h h' : Heap} {nm : Nat}

theorem HSat.ext (H : HSat env w0 ρ h w) (he : ∀ k, hget h k = hget h' k) : HSat env w0 ρ h' w :=
  ⟨H.below, fun n o hn => H.objs n o (by rw [he]; exact hn), fun m n o o' p q hm hn => H.inj m n o o' p q (by rw [he]; exact hm) (by rw [he]; exact hn), by
    have e : h' = h := funext fun k => (he k).symm
    rw [e]; exact H.abs, by
    have e : h' = h := funext fun k => (he k).symm
    rw [e]; exact H.fz⟩

/-- An object is given another name, one that was kept free. -/
theorem HSat.move (H : HSat env w0 ρ h w) {n : Nat} {o : SObj} {p : Pl} (hn : hget h n = some o) (ho : o.owner = true) (hp : ρ n = some p) (hnm : hget h nm = some .resv)
    (hr : o.Rel env w0 (ρ.set nm p) nm w) (hab : o.isAbs = false := by exact rfl) : HSat env w0 (ρ.set nm p) (hput (hput h n .gone) nm o) w := by
  have hne : n ≠ nm := fun e => by subst e; rw [hn] at hnm; injection hnm with e; subst e; cases ho
  have hle := PMap.le_set (H.objs nm .resv hnm) p
  have old : ∀ m, m ≠ nm → (ρ.set nm p) m = ρ m := fun m e => PMap.set_ne e
  have sub : ∀ m x, hget (hput (hput h n .gone) nm o) m = some x → x.owner = true → (m = nm ∧ x = o) ∨ (m ≠ nm ∧ hget h m = some x) := fun m x hm hx => by
    rw [hget_hput] at hm
    by_cases e : m = nm
    · subst e; simp at hm; exact .inl ⟨rfl, hm.symm⟩
    · rw [if_neg e, hget_hput] at hm
      by_cases e2 : m = n
      · subst e2; simp at hm; subst hm; cases hx
      · rw [if_neg e2] at hm; exact .inr ⟨e, hm⟩
  have from_ : ∀ m x q', hget (hput (hput h n .gone) nm o) m = some x → x.owner = true → (ρ.set nm p) m = some q' → ∃ m' o' q'', hget h m' = some o' ∧ o'.owner = true ∧ ρ m' = some q'' ∧ q''.block = q'.block := fun m x q' hm hx hq' => by
    rcases sub m x hm hx with ⟨rfl, rfl⟩ | ⟨e, h⟩
    · refine ⟨n, x, p, hn, ho, hp, ?_⟩
      rw [PMap.set_eq] at hq'; injection hq' with hq'; rw [hq']
    · rw [old m e] at hq'
      exact ⟨m, x, q', h, hx, hq', rfl⟩
  have habs : ∃ μ, AbsAll env w0 (ρ.set nm p) (hput (hput h n .gone) nm o) w μ := by
    obtain ⟨μ, hA⟩ := H.abs
    refine ⟨μ, hA.keep hle (fun m k st refs hm => ?_) (fun _ _ _ _ _ _ _ _ _ => rfl) (Nat.le_refl _) (fun _ h => h) (fun m x q' hm hx hq' => .inl (from_ m x q' hm hx hq'))⟩
    rcases sub m _ hm rfl with ⟨_, e⟩ | ⟨_, h⟩
    · subst e; cases hab
    · exact h
  refine ⟨H.below, fun m x hm => ?_, fun m k x y p' q' hm hk hx hy hp' hq' he => ?_, habs, H.fz.keep rfl (fun _ _ _ h => h) (fun m x q' hm hx hq' => .inl (from_ m x q' hm hx hq'))⟩
  · rw [hget_hput] at hm
    by_cases e : m = nm
    · subst e; simp at hm; subst hm; exact hr
    · rw [if_neg e, hget_hput] at hm
      by_cases e2 : m = n
      · subst e2; simp at hm; subst hm; trivial
      · rw [if_neg e2] at hm
        exact (H.objs m x hm).keep hle (fun _ _ _ => rfl) (fun h0 _ => by rw [old m e]; exact h0)
  · rw [hget_hput] at hm hk
    have back : ∀ m x p', hget (hput h n .gone) m = some x → m ≠ nm → x.owner = true → (ρ.set nm p) m = some p' → m ≠ n ∧ hget h m = some x ∧ ρ m = some p' := by
      intro m x p' hm e hx hp'
      rw [hget_hput] at hm
      by_cases e2 : m = n
      · subst e2; simp at hm; subst hm; cases hx
      · rw [if_neg e2] at hm; rw [old m e] at hp'; exact ⟨e2, hm, hp'⟩
    by_cases e1 : m = nm
    · by_cases e2 : k = nm
      · rw [e1, e2]
      · rw [if_neg e2] at hk
        obtain ⟨b1, b2, b3⟩ := back k y q' hk e2 hy hq'
        subst e1
        rw [set_self] at hp'
        injection hp' with hp'
        subst hp'
        exact absurd (H.inj n k o y p q' hn b2 ho hy hp b3 he).symm b1
    · rw [if_neg e1] at hm
      obtain ⟨a1, a2, a3⟩ := back m x p' hm e1 hx hp'
      by_cases e2 : k = nm
      · subst e2
        rw [set_self] at hq'
        injection hq' with hq'
        subst hq'
        exact absurd (H.inj m n x o p' p a2 hn hx ho a3 hp he) a1
      · rw [if_neg e2] at hk
        obtain ⟨b1, b2, b3⟩ := back k y q' hk e2 hy hq'
        exact H.inj m k x y p' q' a2 b2 hx hy a3 b3 he

/-- What is appended: its length and its cells. -/
theorem srcS_ok (H : HSat env w0 ρ h w) {sz : Nat} {x : SV} {v : Value} {new : List (List SV)} (hx : x.Rel env ρ v) (he : (srcS sz x).Run env h new h') :
    h = h' ∧ ∃ us, SV.Rels env ρ new.flatten us ∧ (Builtin.lenOf v).run P w = .ok new.length w ∧
      (∀ t ∈ new, t.length = sz) ∧ us.all (·.oneCell') = true ∧ ∀ w' : World, w'.heap = w.heap → (Builtin.firstCells sz new.length v).run P w' = .ok us.toArray w' := by
  cases x with
  | nilsl =>
    simp only [srcS, run_ret] at he
    obtain ⟨rfl, rfl⟩ := he
    simp only [SV.Rel] at hx
    subst hx
    exact ⟨rfl, [], rfl, rfl, (fun t ht => by cases ht), rfl, fun w' _ => rfl⟩
  | sl n sz' lo len =>
    simp only [srcS, run_bind, run_must, run_getN] at he
    obtain ⟨_, _, ⟨hsz, rfl⟩, o, _, ⟨ho, rfl⟩, he⟩ := he
    obtain rfl := Nat.eq_of_beq_eq_true hsz
    split at he
    · rename_i T sz'' tail
      simp only [run_bind, run_must, run_ofOpt, run_pure] at he
      obtain ⟨_, _, ⟨hsz2, rfl⟩, a, _, ⟨ha, rfl⟩, k, _, ⟨hk, rfl⟩, _, _, ⟨hlen, rfl⟩, _, _, ⟨hone, rfl⟩, rfl, rfl⟩ := he
      obtain rfl := Nat.eq_of_beq_eq_true hsz2
      have hlen := Nat.eq_of_beq_eq_true hlen
      have hA := nat?_ok (env := env) ha
      have hK := nat?_ok (env := env) hk
      obtain ⟨p, vs, rest, g1, g2, g3, g4, ⟨base, tl, rfl, r1, r2, r3, r4, r5⟩, g6, g7⟩ := H.objs n _ ho
      simp only [SV.Rel] at hx
      obtain ⟨q, A, hq, rfl, hx2, hx3, hx1, hx4⟩ := hx
      obtain rfl : q = p := by rw [g1] at hq; exact (Option.some.inj hq).symm
      have hb0 : base = [] := by apply List.eq_nil_of_length_eq_zero; rw [r1]; simp [E.den, Dv.I]
      subst hb0
      simp only [hA, hK, Int.toNat_natCast] at hx1 hx2 hx3
      have hm : ∀ t ∈ (tail.drop a).take k, t.length = sz := fun t ht => r4 t (List.mem_of_mem_drop (List.mem_of_mem_take ht))
      have htl := r3.length
      rw [flatten_len r4] at htl
      have hak : a + k ≤ tail.length ∨ k = 0 := by simp at hlen; omega
      have hfl : ((tail.drop a).take k).flatten = (tail.flatten.drop (a * sz)).take (k * sz) := by
        exact flatten_part r4 a k hak
      have hrel := (r3.drop (a * sz)).take (k * sz)
      rw [← hfl] at hrel
      refine ⟨rfl, _, hrel, ?_, hm, all_one hone hrel, fun w' hw' => ?_⟩
      · simp only [Builtin.lenOf, Sem.run_pure, hK, Int.toNat_natCast, hlen]
      · rw [hlen]
        cases hAv : A with
        | none => rw [hx2] at hAv; rw [g4] at hAv; cases hAv
        | some ad =>
          simp only [Builtin.firstCells]
          by_cases hk0 : k = 0
          · subst hk0; simp [loadCells, loadCellsFrom]
          · have hak' : a + k ≤ tail.length := by omega
            have hcap : (a + k) * sz ≤ q.cap * sz := by
              rw [← g6]; simp only [List.nil_append, List.length_append, htl]
              have := Nat.mul_le_mul_right sz hak'; omega
            have hszp : 0 < sz ∨ sz = 0 := by omega
            rcases hszp with hszp | hszp
            · have hac : a < q.cap := by have := Nat.le_of_mul_le_mul_right hcap hszp; omega
              have had := hx3 hac
              rw [hAv] at had
              injection had with had
              subst had
              have := run_loadCells_list (P := P) w' ⟨q.block, q.base + a * sz, none⟩ ((tl.drop (a * sz)).take (k * sz)) (fun j v hv => by
                obtain ⟨hv1, hv2⟩ := get_drop_take hv
                have hh : w'.heap[q.block]? = some (.cells (([] ++ tl) ++ rest).toArray T (0, 0)) := by rw [hw']; exact g7
                rw [add_at, cell_of hh, g3]
                obtain ⟨hz1, _⟩ := List.getElem?_eq_some_iff.1 hv1
                simp only [List.nil_append, Nat.zero_add, List.getElem?_toArray]
                rw [List.getElem?_append_left hz1]
                exact hv1)
              have hl2 : ((tl.drop (a * sz)).take (k * sz)).length = k * sz := by
                simp; rw [htl]
                have := Nat.mul_le_mul_right sz hak'
                rw [Nat.add_mul] at this
                omega
              rw [hl2] at this
              exact this
            · subst hszp
              simp [loadCells, loadCellsFrom]
    · exact he.elim
  | _ => exact he.elim
where
  flatten_part {α : Type} {sz : Nat} : ∀ {l : List (List α)}, (∀ t ∈ l, t.length = sz) → ∀ a k, (a + k ≤ l.length ∨ k = 0) → ((l.drop a).take k).flatten = (l.flatten.drop (a * sz)).take (k * sz)
    | [], _, a, k, _ => by simp
    | y :: r, hl, 0, 0, _ => by simp
    | y :: r, hl, 0, k + 1, hk => by
      have hy := hl y (List.mem_cons_self ..)
      have ih := flatten_part (l := r) (fun t ht => hl t (List.mem_cons_of_mem _ ht)) 0 k (by simp at hk; omega)
      simp only [Nat.zero_mul, List.drop_zero] at ih
      simp only [List.drop_zero, List.take_succ_cons, List.flatten_cons, Nat.zero_mul, ih]
      rw [Nat.succ_mul, Nat.add_comm (k * sz) sz, ← hy, List.take_length_add_append]
    | y :: r, hl, a + 1, k, hk => by
      have hy := hl y (List.mem_cons_self ..)
      have ih := flatten_part (l := r) (fun t ht => hl t (List.mem_cons_of_mem _ ht)) a k (by simp at hk; omega)
      rw [List.drop_succ_cons, ih, List.flatten_cons, Nat.succ_mul, Nat.add_comm (a * sz) sz, ← List.drop_drop, ← hy, List.drop_left]

theorem growBy_le (n : Nat) : ∀ (r c : Nat), c < n → Builtin.growBy n r c ≤ 2 * n + 768
  | 0, c, h => by simp only [Builtin.growBy]; omega
  | r + 1, c, h => by
    simp only [Builtin.growBy]
    split
    · omega
    · by_cases h2 : c + (c + 768) / 4 < n
      · exact growBy_le n r _ h2
      · have h3 : ∀ r, Builtin.growBy n r (c + (c + 768) / 4) = c + (c + 768) / 4 := fun r => by
          cases r with
          | zero => rfl
          | succ r => simp only [Builtin.growBy]; rw [if_pos (by omega)]
        rw [h3]; omega
theorem nextcap_le {need cap : Nat} (h : cap < need) : Builtin.nextslicecap need cap ≤ 2 * need + 768 := by
  unfold Builtin.nextslicecap
  split
  · omega
  · split
    · omega
    · exact growBy_le _ _ _ h

theorem zeroCells_size (zero : Array Value) (n : Nat) : (Builtin.zeroCells zero n).size = n * zero.size := by simp [Builtin.zeroCells]

theorem rowEnd_den {len : E} {tail : List (List SV)} : ((rowEnd len tail).den env).I = (len.den env).I + tail.length := by
  rw [rowEnd, addI_I]; rfl

theorem appendS_ok (H : HSat env w0 ρ h w) {t u : TypeId} {ti : TypeId} {e2 : TypeId} {s x r : SV} {v y : Value} (hs : s.Rel env ρ v) (hx : x.Rel env ρ y) (hu : P.underlying u = some (.slice e2))
    (he : (appendS P nm t s x).Run env h r h') : SemOk P env w0 ρ nm h' w (Builtin.append_ #[t, u] ti #[v, y]) r := by
  simp only [appendS, run_bind, run_und] at he
  obtain ⟨d, _, ⟨hd, rfl⟩, he⟩ := he
  cases d with
  | slice elem =>
    simp only [run_bind, run_inf, run_must, run_zeroS] at he
    obtain ⟨i, _, ⟨hi, rfl⟩, _, _, ⟨h0, rfl⟩, _, _, ⟨hby, rfl⟩, _, _, ⟨hsi, rfl⟩, z, _, ⟨⟨iz, zv, hz1, hz2, hz3⟩, rfl⟩, _, _, ⟨hzl, rfl⟩, new, h1, hnew, he⟩ := he
    have h0 : 0 < i.size := by simp [Nat.blt] at h0; omega
    have hby := Nat.le_of_ble_eq_true hby
    have hzl := Nat.eq_of_beq_eq_true hzl
    have hzr : z.Rel env ρ zv := ofVal_ok zv hz3
    have hzs : zv.cells.size = i.size := by have := (cells_ok (ofVal_shut hz3) hzr).length; simp at this; omega
    obtain ⟨rfl, us, hus, hlen, hml, husone, hfirst⟩ := srcS_ok (P := P) H hx hnew
    have husl : us.length = new.length * i.size := by rw [hus.length, flatten_len hml]
    have hzero : ∀ w', (zeroValue elem).run P w' = .ok zv w' := s_zero hz1 hz2
    -- what the model does, when it must grow
    have grow : ∀ (A : Option Addr) (sLen sCap : Nat) (old : Array Value), v = .slice A sLen sCap → sCap < sLen + new.length → sLen + new.length ≤ 2 * 2147483648 + 1048576 →
        (∀ w', w'.heap = w.heap → (Builtin.firstCells i.size sLen v).run P w' = .ok old w') →
        ∃ (newCap : Nat) (w1 : World), sLen + new.length ≤ newCap ∧ w1.heap = w.heap ∧ w1.os = w.os ∧ w1.tape = w.tape ∧ w1.output = w.output ∧
          (Builtin.append_ #[t, u] ti #[v, y]).run P w = .ok (.slice (some ⟨w.heap.size, 0, none⟩) (sLen + new.length) newCap)
            { w1 with heap := w1.heap.push (.cells (old ++ us.toArray ++ Builtin.zeroCells zv.cells (newCap - (sLen + new.length))) elem (0, 0)) } := by
      intro A sLen sCap old hv hcap hbig hold
      subst hv
      have hnc := nextcap_le hcap
      have hle48 : ¬ (Builtin.nextslicecap (sLen + new.length) sCap * i.bytes > 2 ^ 48) := by
        have : Builtin.nextslicecap (sLen + new.length) sCap * i.bytes ≤ (2 * (2 * 2147483648 + 1048576) + 768) * 4096 := Nat.mul_le_mul (by omega) hby
        have : (2 * (2 * 2147483648 + 1048576) + 768) * 4096 ≤ 2 ^ 48 := by decide
        omega
      refine ⟨Question.cut (.appendCap (sLen + new.length) sCap elem) (w.tape w.drawn (.appendCap (sLen + new.length) sCap elem)), { w with drawn := w.drawn + 1 }, ?_, rfl, rfl, rfl, rfl, ?_⟩
      · simp only [Question.cut]; omega
      · have hneg : ¬ (sLen + new.length ≤ sCap) := by omega
        simp only [Builtin.append_, List.getElem?_toArray, List.getElem?_cons_zero, List.getElem?_cons_succ, Sem.run_bind, s_und hd, s_size hi, Result.andThen_ok, s_und hu, Sem.run_pure, hlen, Bool.false_eq_true, if_false, if_neg hneg, false_or]
        have hmax : IntKind.i64.max = 9223372036854775807 := by decide
        have hneg2 : ¬ (((sLen + new.length : Nat) : Int) > IntKind.i64.max ∧ i.bytes = 0) := by rw [hmax]; omega
        have ho := hold { w with drawn := w.drawn + 1 } rfl
        have hf := hfirst { w with drawn := w.drawn + 1 } rfl
        simp only [s_inf hi, Result.andThen_ok, if_neg hneg2, Sem.run_bind, if_neg hle48, run_choose, Question.forced, Bool.false_eq_true, if_false, run_askRoom, ho, Bool.not_false, if_true, hf, hzero, newRow, run_newObj, Sem.run_pure]
    -- a new row, behind growing
    have fresh : ∀ (newCap : Nat) (w1 : World) (base tl rest : List Value) (rl : E) (cols : List Col) (tail : List (List SV)) (ρ' : PMap) (hh : Heap), ρ' = ρ → HSat env w0 ρ hh w → w1.heap = w.heap → w1.os = w.os → w1.tape = w.tape → w1.output = w.output →
        hget hh nm = some .resv → RowRel env ρ i.size rl cols tail (base ++ tl) → (base ++ tl ++ rest).length = newCap * i.size →
        HSat env w0 (ρ.set nm ⟨w.heap.size, 0, newCap, false⟩) (hput hh nm (.row elem i.size rl cols tail)) { w1 with heap := w1.heap.push (.cells (base ++ tl ++ rest).toArray elem (0, 0)) } ∧
          ρ.le (ρ.set nm ⟨w.heap.size, 0, newCap, false⟩) := by
      intro newCap w1 base tl rest rl cols tail ρ' hh _ Hh e1 e2 e3 e4 hn hrow hc
      have H1 := Hh.drawn (w' := w1) e1 e2 e3 e4
      have := new_row (T := elem) (rest := rest) (cap := newCap) H1 hn hrow hc
      rw [e1] at this ⊢
      exact ⟨this.2, this.1⟩
    cases s with
    | nilsl =>
      simp only [SV.Rel] at hs
      subst hs
      cases new with
      | nil =>
        simp only [run_pure] at he
        obtain ⟨rfl, rfl⟩ := he
        refine SemOk.same (v := .slice none 0 0) H ?_ rfl
        have hf := hfirst w rfl
        simp only [List.length_nil] at hf
        simp only [Builtin.append_, List.getElem?_toArray, List.getElem?_cons_zero, List.getElem?_cons_succ, Sem.run_bind, s_und hd, s_size hi, Result.andThen_ok, s_und hu, Sem.run_pure, hlen, Bool.false_eq_true, if_false]
        simp only [List.length_nil, Nat.add_zero, Nat.le_refl, if_true, Bool.not_false, Sem.run_bind, hf, Result.andThen_ok, Sem.run_pure]
      | cons t0 tr =>
        simp only [run_bind, run_must, run_newS, run_pure] at he
        obtain ⟨_, _, ⟨hmany, rfl⟩, _, _, ⟨hn, rfl⟩, rfl, rfl⟩ := he
        have hmany : (t0 :: tr).length < 1048576 := by simp only [Nat.blt] at hmany; have := Nat.le_of_ble_eq_true hmany; omega
        obtain ⟨newCap, w1, q1, q2, q3, q4, q5, hrun⟩ := grow none 0 0 #[] rfl (by simp) (by omega) (fun w' _ => rfl)
        simp only [Nat.zero_add] at q1 hrun
        have hrow : RowRel env ρ i.size (.il 0) [] (t0 :: tr) ([] ++ us) := ⟨[], us, rfl, by simp [E.den, Dv.I], fun k hk => by simp [E.den, Dv.I] at hk, hus, hml, by simp⟩
        have hsize : ([] ++ us ++ (Builtin.zeroCells zv.cells (newCap - (t0 :: tr).length)).toList).length = newCap * i.size := by
          simp only [List.nil_append, List.length_append, Array.length_toList, zeroCells_size, hzs, husl, ← Nat.add_mul]
          congr 1; omega
        obtain ⟨H', hle⟩ := fresh newCap w1 [] us _ (.il 0) [] (t0 :: tr) ρ _ rfl H q2 q3 q4 q5 hn hrow hsize
        refine ⟨_, _, _, hrun, hle, set_fresh _, ?_, ⟨_, some ⟨w.heap.size, 0, none⟩, set_self _, ?_, ?_, ?_, ?_, Int.le_refl 0⟩⟩
        · have e : (#[] ++ us.toArray ++ Builtin.zeroCells zv.cells (newCap - (t0 :: tr).length)) = ([] ++ us ++ (Builtin.zeroCells zv.cells (newCap - (t0 :: tr).length)).toList).toArray := by
            apply Array.ext'; simp
          rw [e]
          exact H'
        · simp [E.den, Dv.I]
        · simp
        · simp [E.den, Dv.I]
        · simp only [E.den, Dv.I, Int.toNat_natCast]; simpa using q1
    | sl n sz lo len =>
      split at he
      · cases ‹SV.sl n sz lo len = SV.nilsl›
      · rename_i n' sz' len' heq
        injection heq with e1 e2 e3 e4
        subst e1; subst e2; subst e3; subst e4
        simp only [run_bind, run_must, run_getN] at he
        obtain ⟨_, _, ⟨hsz, rfl⟩, o, _, ⟨ho, rfl⟩, he⟩ := he
        obtain rfl := Nat.eq_of_beq_eq_true hsz
        cases o with
        | row T sz' rl cols tail =>
          simp only [run_bind, run_must, run_vcE, run_putN, run_newS, run_pure] at he
          obtain ⟨_, _, ⟨hsz2, rfl⟩, _, _, ⟨hT, rfl⟩, _, _, ⟨hv1, rfl⟩, _, _, ⟨hv2, rfl⟩, _, _, ⟨hv3, rfl⟩, _, _, ⟨hmany, rfl⟩, _, _, rfl, _, _, ⟨hn, rfl⟩, rfl, rfl⟩ := he
          obtain rfl := Nat.eq_of_beq_eq_true hsz2
          obtain rfl := Nat.eq_of_beq_eq_true hT
          have hmany : new.length < 1048576 := by simp only [Nat.blt] at hmany; have := Nat.le_of_ble_eq_true hmany; omega
          rw [mk2_den] at hv1
          have hv1 : (len.den env).I = (rl.den env).I + tail.length := by
            rw [← rowEnd_den]; simpa [E.den, O2.den, Dv.B] using hv1
          rw [leE_iff, I_il] at hv2
          rw [leE_iff, I_il, rowEnd_den] at hv3
          have hne : nm ≠ n := fun e => by
            subst e
            rw [hget_hput, if_pos rfl] at hn
            cases hn
          have hnm : hget h nm = some .resv := by rw [hget_hput, if_neg hne] at hn; exact hn
          obtain ⟨p, vs, rest, g1, g2, g3, g4, hrow, g6, g7⟩ := H.objs n _ ho
          simp only [SV.Rel] at hs
          obtain ⟨q, A, hq, rfl, hx2, hx3, hx1, _⟩ := hs
          obtain rfl : q = p := by rw [g1] at hq; exact (Option.some.inj hq).symm
          obtain ⟨base, tl, rfl, r1, r2, r3, r4, r5⟩ := hrow
          have htl : tl.length = tail.length * i.size := by rw [r3.length, flatten_len r4]
          have hL : (len.den env).I.toNat = (rl.den env).I.toNat + tail.length := by omega
          have hvsl : (base ++ tl).length = (len.den env).I.toNat * i.size := by rw [List.length_append, r1, htl, hL, Nat.add_mul]
          have hLc : (len.den env).I.toNat ≤ q.cap := by simpa [E.den, Dv.I] using hx1
          obtain ⟨ad, hA⟩ : ∃ ad, A = some ad := by
            cases hAA : A with
            | none => rw [hx2] at hAA; rw [g4] at hAA; cases hAA
            | some ad => exact ⟨ad, rfl⟩
          subst hA
          have hrow' : RowRel env ρ i.size rl cols (tail ++ new) (base ++ (tl ++ us)) :=
            ⟨base, tl ++ us, rfl, r1, r2, by rw [List.flatten_append]; exact r3.append hus, fun t ht => by
              rcases List.mem_append.1 ht with h | h
              · exact r4 t h
              · exact hml t h, r5⟩
          have hcap0 : q.cap - ((E.il 0).den env).I.toNat = q.cap := by simp [E.den, Dv.I]
          rw [hcap0]
          by_cases hfit : (len.den env).I.toNat + new.length ≤ q.cap
          · -- there is room
            have hf := hfirst w rfl
            have hin : (len.den env).I.toNat * i.size + us.length ≤ (base ++ tl ++ rest).toArray.size := by
              simp only [List.size_toArray, g6, husl, ← Nat.add_mul]
              exact Nat.mul_le_mul_right _ hfit
            have hdrop : us.length ≤ rest.length := by
              have := g6; rw [List.length_append, hvsl] at this; simp only [List.size_toArray, g6] at hin; omega
            -- the store
            have hstore : (storeCells (ad.add ((len.den env).I.toNat * i.size)) us).run P w = .ok () (w.setBlk q.block (.cells (base ++ (tl ++ us) ++ rest.drop us.length).toArray T (0, 0))) := by
              by_cases hc0 : q.cap = 0
              · have hn0 : new.length = 0 := by omega
                have hu0 : us = [] := by apply List.eq_nil_of_length_eq_zero; rw [husl, hn0]; simp
                subst hu0
                simp only [storeCells, Sem.run_pure, List.append_nil, List.length_nil, List.drop_zero]
                rw [setBlk_id g7]
              · have had := hx3 (by rw [I_il]; simp; omega)
                injection had with had
                subst had
                simp only [g3, add_at, I_il, Int.toNat_zero, Nat.zero_mul, Nat.zero_add]
                have := run_storeCells (P := P) (off := (len.den env).I.toNat * i.size) us w (base ++ tl ++ rest).toArray 0 g7 ?_ (by simpa using hin)
                · rw [this]
                  congr 3
                  apply Array.ext'
                  rw [putCells_list _ _ _ (by simpa using hin)]
                  simp only [Nat.add_zero]
                  rw [← hvsl, List.take_left, List.drop_append, List.drop_of_length_le (by omega), Nat.add_sub_cancel_left]
                  simp
                · exact husone
            have hrun : (Builtin.append_ #[t, u] ti #[.slice (some ad) (len.den env).I.toNat q.cap, y]).run P w =
                .ok (.slice (some ad) ((len.den env).I.toNat + new.length) q.cap) (w.setBlk q.block (.cells (base ++ (tl ++ us) ++ rest.drop us.length).toArray T (0, 0))) := by
              simp only [Builtin.append_, List.getElem?_toArray, List.getElem?_cons_zero, List.getElem?_cons_succ, Sem.run_bind, s_und hd, s_size hi, Result.andThen_ok, s_und hu, Sem.run_pure, hlen, Bool.false_eq_true, if_false, if_pos hfit, Bool.not_false, if_true, hf, hstore]
            -- the row as it then is, under its old name; then under the new one
            have hnr : (SObj.row T i.size rl cols (tail ++ new)).Rel env w0 ρ n (w.setBlk q.block (.cells (base ++ (tl ++ us) ++ rest.drop us.length).toArray T (0, 0))) :=
              ⟨q, _, rest.drop us.length, hq, g2, g3, g4, hrow', by rw [← g6]; simp; omega, setBlk_same g7⟩
            have H1 := H.update ho rfl hq rfl hnr
            have hle := PMap.le_set (H.objs nm .resv hnm) q
            have H2 := H1.move (n := n) (o := .row T i.size rl cols (tail ++ new)) (by rw [hget_hput, if_pos rfl]) rfl hq (by rw [hget_hput, if_neg hne]; exact hnm)
              (by obtain ⟨q', vs', rest', a1, a2, a3, a4, a5, a6, a7⟩ := hnr
                  obtain rfl : q' = q := by rw [hq] at a1; exact (Option.some.inj a1).symm
                  exact ⟨q', vs', rest', set_self _, a2, a3, a4, a5.mono hle, a6, a7⟩)
            refine ⟨_, _, _, hrun, hle, set_fresh _, H2.ext (fun k => ?_), ⟨q, some ad, set_self _, ?_, ?_, ?_, ?_, Int.le_refl 0⟩⟩
            · simp only [hget_hput]
              by_cases e1 : k = nm <;> by_cases e2 : k = n <;> simp [e1, e2]
            · rw [rowEnd_den, I_il]
              congr 1
              simp only [List.length_append]
              omega
            · rw [g4]; simp
            · intro hc; exact hx3 hc
            · rw [rowEnd_den, I_il]
              simp only [List.length_append]
              omega
          · -- it grows
            have hold : ∀ w' : World, w'.heap = w.heap → (Builtin.firstCells i.size (len.den env).I.toNat (.slice (some ad) (len.den env).I.toNat q.cap)).run P w' = .ok (base ++ tl).toArray w' := by
              intro w' hw'
              simp only [Builtin.firstCells]
              by_cases hc0 : q.cap = 0
              · have hl0 : (len.den env).I.toNat = 0 := by omega
                have hb0 : base ++ tl = [] := by apply List.eq_nil_of_length_eq_zero; rw [hvsl, hl0]; simp
                rw [hl0, hb0]
                simp [loadCells, loadCellsFrom]
              · have had := hx3 (by rw [I_il]; simp; omega)
                injection had with had
                subst had
                have := run_loadCells_list (P := P) w' ⟨q.block, q.base + ((E.il 0).den env).I.toNat * i.size, none⟩ (base ++ tl) (fun j v hv => by
                  have hh : w'.heap[q.block]? = some (.cells (base ++ tl ++ rest).toArray T (0, 0)) := by rw [hw']; exact g7
                  rw [add_at, cell_of hh, g3, I_il]
                  obtain ⟨hz1, _⟩ := List.getElem?_eq_some_iff.1 hv
                  simp only [Int.toNat_zero, Nat.zero_mul, Nat.zero_add, List.getElem?_toArray]
                  rw [List.getElem?_append_left hz1]
                  exact hv)
                rw [hvsl] at this
                exact this
            rw [hcap0] at grow
            obtain ⟨newCap, w1, q1, q2, q3, q4, q5, hrun⟩ := grow (some ad) _ q.cap _ rfl (by omega) (by omega) hold
            have hsize : (base ++ (tl ++ us) ++ (Builtin.zeroCells zv.cells (newCap - ((len.den env).I.toNat + new.length))).toList).length = newCap * i.size := by
              have e0 : (base ++ (tl ++ us)).length = (len.den env).I.toNat * i.size + new.length * i.size := by rw [← List.append_assoc, List.length_append, hvsl, husl]
              rw [List.length_append, e0]
              simp only [Array.length_toList, zeroCells_size, hzs, ← Nat.add_mul]
              congr 1; omega
            have Hg := H.forget n
            obtain ⟨H', hle⟩ := fresh newCap w1 base (tl ++ us) _ rl cols (tail ++ new) ρ _ rfl Hg q2 q3 q4 q5 hn hrow' hsize
            refine ⟨_, _, _, hrun, hle, set_fresh _, ?_, ⟨_, some ⟨w.heap.size, 0, none⟩, set_self _, ?_, ?_, ?_, ?_, Int.le_refl 0⟩⟩
            · have e : ((base ++ tl).toArray ++ us.toArray ++ Builtin.zeroCells zv.cells (newCap - ((len.den env).I.toNat + new.length))) =
                  (base ++ (tl ++ us) ++ (Builtin.zeroCells zv.cells (newCap - ((len.den env).I.toNat + new.length))).toList).toArray := by
                apply Array.ext'; simp
              rw [e]
              exact H'
            · rw [rowEnd_den, I_il]
              congr 1
              simp only [List.length_append]
              omega
            · simp
            · intro _; rw [I_il]; simp
            · rw [rowEnd_den, I_il]
              simp only [List.length_append]
              omega
        | _ => exact he.elim
      · exact he.elim
    | _ => exact he.elim
  | _ => exact he.elim

end
end Go.Sx
