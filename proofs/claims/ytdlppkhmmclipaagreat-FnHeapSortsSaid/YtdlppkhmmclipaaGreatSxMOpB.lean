/-
  SX, PART 5f: places, fields, indexes, slices, conversions, interfaces.
-/
import Derived.Test.YtdlppkhmmclipaaGreatSxMSat
import Derived.Laws.StructEq
namespace Go.Sx
open Go.RowKit
set_option linter.unusedVariables false
set_option linter.unusedSimpArgs false
section
variable {P : Program} {env : Env} {w0 : Anchor} {w : World} {ρ : af} {h h' : aL} {nm : Nat}
theorem az.ext (H : az env w0 ρ h w) (he : ∀ k, ay h k = ay h' k) : az env w0 ρ h' w :=
 ⟨H.below, fun n o hn => H.bk n o (by rw [he]; exact hn), fun m n o o' p q hm hn => H.inj m n o o' p q (by rw [he]; exact hm) (by rw [he]; exact hn), by
  have e : h' = h := funext fun k => (he k).symm; rw [e]; exact H.ar, by
  have e : h' = h := funext fun k => (he k).symm
  rw [e]; exact H.fz⟩
theorem az.move (H : az env w0 ρ h w) {n : Nat} {o : aA} {p : Pl} (hn : ay h n = some o) (ho : o.owner = true) (hp : ρ n = some p) (hnm : ay h nm = some .dP)
    (hr : o.Rel env w0 (ρ.set nm p) nm w) : az env w0 (ρ.set nm p) (bf (bf h n .gone) nm o) w := by
 have hne : n ≠ nm := fun e => by subst e; rw [hn] at hnm; injection hnm with e; subst e; cases ho
 have hle := af.mX (H.bk nm .dP hnm) p; have iM : ∀ m, m ≠ nm -> (ρ.set nm p) m = ρ m := fun m e => af.qD e
 have sub : ∀ m x, ay (bf (bf h n .gone) nm o) m = some x -> x.owner = true -> (m = nm /\ x = o) \/ (m ≠ nm /\ ay h m = some x) := fun m x hm hx => by
  rw [ai] at hm
  by_cases e : m = nm
  ·subst e; simp at hm; exact .inl ⟨rfl, hm.symm⟩
  ·rw [if_neg e, ai] at hm
   by_cases e2 : m = n
   ·subst e2; simp at hm; subst hm; cases hx
   ·rw [if_neg e2] at hm; exact .inr ⟨e, hm⟩
 have from_ : ∀ m x q', ay (bf (bf h n .gone) nm o) m = some x -> x.owner = true -> (ρ.set nm p) m = some q' -> ∃ m' o' q'', ay h m' = some o' /\ o'.owner = true /\ ρ m' = some q'' /\ q''.block = q'.block := fun m x q' hm hx hq' => by
  rcases sub m x hm hx with ⟨rfl, rfl⟩ | ⟨e, h⟩
  ·refine ⟨n, x, p, hn, ho, hp, ?_⟩; rw [af.xS] at hq'; injection hq' with hq'; rw [hq']
  ·rw [iM m e] at hq'; exact ⟨m, x, q', h, hx, hq', rfl⟩
 have habs : lA env w0 (ρ.set nm p) (bf (bf h n .gone) nm o) w := by
  obtain ⟨a1, a2⟩ := rJ (x := .gone) hn (kT ho) rfl; have hnm' : ay (bf h n .gone) nm = some .dP := by rw [ai, if_neg hne.symm]; exact hnm
  obtain ⟨b1, b2⟩ := rJ (x := o) hnm' rfl (kT ho); exact H.ar.cU (Fz.le_refl _) rfl (fun m T ks e hm => a1 _ _ _ _ (b1 _ _ _ _ hm)) (fun T ks e hm => ⟨ks, e, b2 _ _ _ (a2 _ _ _ hm)⟩) (fun _ _ _ _ _ _ _ _ => rfl) (Nat.le_refl _) (fun _ h => h) rfl (fun m x q' hm hx hq' => .inl (from_ m x q' hm hx hq')) (fun _ _ _ _ _ _ _ _ h => h)
 refine ⟨H.below, fun m x hm => ?_, fun m k x y p' q' hm hk hx hy hp' hq' he => ?_, habs, H.fz.cU rfl (fun _ _ _ h => h) (fun m x q' hm hx hq' => .inl (from_ m x q' hm hx hq'))⟩
 ·rw [ai] at hm
  by_cases e : m = nm
  ·subst e; simp at hm; subst hm; exact hr
  ·rw [if_neg e, ai] at hm
   by_cases e2 : m = n
   ·subst e2; simp at hm; subst hm; trivial
   ·rw [if_neg e2] at hm; exact (H.bk m x hm).cU hle (fun _ _ _ => rfl) (fun h0 _ => by rw [iM m e]; exact h0)
 ·rw [ai] at hm hk
  have back : ∀ m x p', ay (bf h n .gone) m = some x -> m ≠ nm -> x.owner = true -> (ρ.set nm p) m = some p' -> m ≠ n /\ ay h m = some x /\ ρ m = some p' := by
   intro m x p' hm e hx hp'; rw [ai] at hm
   by_cases e2 : m = n
   ·subst e2; simp at hm; subst hm; cases hx
   ·rw [if_neg e2] at hm; rw [iM m e] at hp'; exact ⟨e2, hm, hp'⟩
  by_cases e1 : m = nm
  ·by_cases e2 : k = nm
   ·rw [e1, e2]
   ·rw [if_neg e2] at hk; obtain ⟨b1, b2, b3⟩ := back k y q' hk e2 hy hq'; subst e1; rw [ca] at hp'; injection hp' with hp'; subst hp'; exact absurd (H.inj n k o y p q' hn b2 ho hy hp b3 he).symm b1
  ·rw [if_neg e1] at hm; obtain ⟨a1, a2, a3⟩ := back m x p' hm e1 hx hp'
   by_cases e2 : k = nm
   ·subst e2; rw [ca] at hq'; injection hq' with hq'; subst hq'; exact absurd (H.inj m n x o p' p a2 hn hx ho a3 hp he) a1
   ·rw [if_neg e2] at hk; obtain ⟨b1, b2, b3⟩ := back k y q' hk e2 hy hq'; exact H.inj m k x y p' q' a2 b2 hx hy a3 b3 he
theorem AO {a : E} : ((E.o1 .ab a).den env).I = (((a.den env).T.length : Nat) : Int) := rfl
theorem DK.Rel.one {fz : Fz} : ∀ {k : DK} {d : Dv} {v : Value}, k.Rel fz d v -> v.oneCell' = true
 | .int _, _, _, h => by simp only [DK.Rel] at h; subst h; rfl
 | .bool, _, _, h => by simp only [DK.Rel] at h; subst h; rfl
 | .str, _, _, h => by simp only [DK.Rel] at h; subst h; rfl
 | .sl _, _, _, h => by simp only [DK.Rel] at h; obtain ⟨A, c, rfl, _⟩ := h; rfl
 | .fp _, _, _, h => by simp only [DK.Rel] at h; obtain ⟨b, o, rfl, _⟩ := h; rfl
 | .eh _ _, _, _, h => by simp only [DK.Rel] at h; obtain ⟨y, rfl, _⟩ := h; rfl
 | .nilm, _, _, h => by simp only [DK.Rel] at h; subst h; rfl
 | .ap _, _, _, h => by
   simp only [DK.Rel] at h; rcases h with ⟨_, rfl⟩ | ⟨_, _, _, rfl⟩ <;> rfl
theorem aJ.Kx : ∀ {ks : aJ} {j : Nat}, j < ks.len -> ∃ k, ks.get j = some k
 | .nil, j, h => absurd h (Nat.not_lt_zero j)
 | .cons k r, 0, _ => ⟨k, rfl⟩
 | .cons k r, j + 1, h => by
   obtain ⟨k', h'⟩ := aJ.Kx (ks := r) (j := j) (by simp only [aJ.len] at h; omega)
   exact ⟨k', h'⟩
theorem aJ.A6 : ∀ {ks : aJ} {j : Nat} {k : DK}, ks.get j = some k -> j < ks.len
 | .nil, _, _, h => by simp [aJ.get] at h
 | .cons _ _, 0, _, _ => Nat.succ_pos _
 | .cons _ r, j + 1, _, h => by
   have := aJ.A6 (ks := r) (j := j) (by simpa only [aJ.get] using h)
   simp only [aJ.len]; omega
theorem aJ.Rel.congr {fz : Fz} : ∀ {ks : aJ} {row row' : Nat -> Dv} {cell cell' : Nat -> Option Value} {j : Nat}, ks.Rel fz row cell j -> (∀ m, m < ks.len -> row' (j + m) = row (j + m)) -> (∀ m v, m < ks.len -> cell (j + m) = some v -> cell' (j + m) = some v) -> ks.Rel fz row' cell' j
 | .nil, _, _, _, _, _, _, _, _ => trivial
 | .cons k r, row, row', cell, cell', j, h, h1, h2 => by
   simp only [aJ.Rel] at h ⊢; obtain ⟨⟨v, a, b⟩, c⟩ := h; have r0 := h1 0 (by simp only [aJ.len]; omega)
   have c0 := h2 0 v (by simp only [aJ.len]; omega) a
   rw [Nat.add_zero] at r0 c0; refine ⟨⟨v, c0, by rw [r0]; exact b⟩, aJ.Rel.congr c (fun m hm => ?_) (fun m v hm hv => ?_)⟩
   ·have := h1 (m + 1) (by simp only [aJ.len]; omega)
    rw [show j + (m + 1) = j + 1 + m by omega] at this
    exact this
   ·have := h2 (m + 1) v (by simp only [aJ.len]; omega)
    rw [show j + (m + 1) = j + 1 + m by omega] at this
    exact this hv
theorem wo (H : az env w0 ρ h w) {ks : aJ} {d : Dv} {v : Value} (hv : (DK.sl ks).Rel ρ.fz d v) :
    ∃ us : List Value, us.length = d.T.length * ks.len /\ (∀ i, i < d.T.length -> ks.Rel ρ.fz (fun j => d.at i j) (fun j => us[i * ks.len + j]?) 0) /\
     us.all (·.oneCell') = true /\ (∃ A cap, v = .slice A d.T.length cap /\ d.T.length <= cap /\ (0 < d.T.length -> ∃ a, A = some a)) /\ (Builtin.lenOf v).run P w = .ok d.T.length w /\ ∀ w' : World, w'.heap = w.heap -> (Builtin.firstCells ks.len d.T.length v).run P w' = .ok us.toArray w' := by
 simp only [DK.Rel] at hv; obtain ⟨A, cap, rfl, hcap, hrow⟩ := hv; generalize hn : d.T.length = n at *; rcases Nat.eq_zero_or_pos n with h0 | h0
 ·subst h0; refine ⟨[], by simp, fun i hi => absurd hi (Nat.not_lt_zero i), rfl, ⟨A, cap, rfl, Nat.zero_le _, fun h => absurd h (Nat.lt_irrefl 0)⟩, by simp only [Builtin.lenOf, Sem.run_pure], fun w' _ => ?_⟩
  cases A with
  | none => simp [Builtin.firstCells]
  | some a => simp [Builtin.firstCells, loadCells, loadCellsFrom]
 ·obtain ⟨b, o, rfl, hrows⟩ := hrow h0
  have hcell : ∀ q, q < n * ks.len -> ∃ u, cu ρ.fz b (o + q) = some u /\ u.oneCell' = true := fun q hq => by
   have hl : 0 < ks.len := by
    rcases Nat.eq_zero_or_pos ks.len with h | h
    ·rw [h] at hq; simp at hq
    ·exact h
   have hi : q / ks.len < n := (Nat.div_lt_iff_lt_mul hl).2 hq; obtain ⟨k, hk⟩ := aJ.Kx (ks := ks) (Nat.mod_lt q hl); obtain ⟨u, hu, hone⟩ := (hrows _ hi).get hk; refine ⟨u, ?_, hone.one⟩; rw [Nat.zero_add] at hu; rw [<- hu]
   congr 1
   have := Nat.div_add_mod q ks.len; rw [Nat.mul_comm] at this; omega
  have hus : ∀ q u, q < n * ks.len -> cu ρ.fz b (o + q) = some u -> ((List.range (n * ks.len)).map (fun q => (cu ρ.fz b (o + q)).getD .nilIface))[q]? = some u := fun q u hq hu => by
   rw [List.getElem?_map, List.getElem?_range hq]; simp only [Option.map_some, hu, Option.getD_some]
  refine ⟨(List.range (n * ks.len)).map (fun q => (cu ρ.fz b (o + q)).getD .nilIface), by simp, fun i hi => ?_, ?_, ⟨_, cap, rfl, hcap, fun _ => ⟨_, rfl⟩⟩, by simp only [Builtin.lenOf, Sem.run_pure], fun w' hw' => ?_⟩
  ·refine aJ.Rel.congr (hrows i hi) (fun m _ => rfl) (fun m u hm hu => ?_)
   have hq : i * ks.len + (0 + m) < n * ks.len := by
    have : (i + 1) * ks.len <= n * ks.len := Nat.mul_le_mul_right _ hi; rw [Nat.succ_mul] at this; omega
   refine hus _ u hq ?_; rw [<- hu]; congr 1; omega
  ·rw [List.all_eq_true]; intro x hx; obtain ⟨q, hq, rfl⟩ := List.mem_map.1 hx; obtain ⟨u, hu, hone⟩ := hcell q (List.mem_range.1 hq); rw [hu]; exact hone
  ·simp only [Builtin.firstCells]
   have := run_loadCells_list (P := P) w' ⟨b, o, none⟩ ((List.range (n * ks.len)).map (fun q => (cu ρ.fz b (o + q)).getD .nilIface)) (fun j u hu => by
    have hj : j < n * ks.len := by
     have := (List.getElem?_eq_some_iff.1 hu).1; simpa using this
    obtain ⟨u', hu', _⟩ := hcell j hj; have := hus j u' hj hu'; rw [this] at hu; injection hu with hu; subst hu; rw [cT]; unfold cu at hu'; cases hb : ρ.fz b with
    | none => rw [hb] at hu'; cases hu'
    | some x =>
      rw [hb] at hu'; have hx := H.fz.at_ b x hb; rw [<- hw'] at hx; cases x with
      | cells c T fz =>
        obtain ⟨fa, fb⟩ := fz; rw [cell_of hx]; exact hu'
      | _ => cases hu')
   simp only [List.length_map, List.length_range] at this; exact this
theorem zd (n : Nat) : ∀ (r c : Nat), c < n -> Builtin.growBy n r c <= 2 * n + 768
 | 0, c, h => by simp only [Builtin.growBy]; omega
 | r + 1, c, h => by
   simp only [Builtin.growBy]; split
   ·omega
   ·by_cases h2 : c + (c + 768) / 4 < n
    ·exact zd n r _ h2
    ·have h3 : ∀ r, Builtin.growBy n r (c + (c + 768) / 4) = c + (c + 768) / 4 := fun r => by
       cases r with
       | zero => rfl
       | succ r => simp only [Builtin.growBy]; rw [if_pos (by omega)]
     rw [h3]; omega
theorem wP {need cap : Nat} (h : cap < need) : Builtin.nextslicecap need cap <= 2 * need + 768 := by
 unfold Builtin.nextslicecap; split
 ·omega
 ·split
  ·omega
  ·exact zd _ _ _ h
theorem ie (zero : Array Value) (n : Nat) : (Builtin.zeroCells zero n).size = n * zero.size := by simp [Builtin.zeroCells]
theorem uc {t u elem e2 ti : TypeId} {i : TypeInfo} {zv y : Value} {n : Nat} {us : List Value} (hd : P.underlying t = some (.slice elem)) (hi : P.info? elem = some i) (hu : P.underlying u = some (.slice e2)) (hby : i.bytes <= 4096)
    (hzero : ∀ w', (zeroValue elem).run P w' = .ok zv w') (hlen : (Builtin.lenOf y).run P w = .ok n w) (hfirst : ∀ w' : World, w'.heap = w.heap -> (Builtin.firstCells i.size n y).run P w' = .ok us.toArray w')
    (A : Option Addr) (sLen sCap : Nat) (iM : Array Value) (hcap : sCap < sLen + n) (hbig : sLen + n <= 2 * 2147483648 + 1048576)
    (hold : ∀ w' : World, w'.heap = w.heap -> (Builtin.firstCells i.size sLen (.slice A sLen sCap)).run P w' = .ok iM w') :
    ∃ (newCap : Nat) (w1 : World), sLen + n <= newCap /\ w1.heap = w.heap /\ w1.os = w.os /\ w1.tape = w.tape /\ w1.output = w.output /\
     (Builtin.append_ #[t, u] ti #[.slice A sLen sCap, y]).run P w = .ok (.slice (some ⟨w.heap.size, 0, none⟩) (sLen + n) newCap)
      { w1 with heap := w1.heap.push (.cells (iM ++ us.toArray ++ Builtin.zeroCells zv.cells (newCap - (sLen + n))) elem (0, 0)) } := by
 have hnc := wP hcap
 have hle48 : ¬ (Builtin.nextslicecap (sLen + n) sCap * i.bytes > 2 ^ 48) := by
  have : Builtin.nextslicecap (sLen + n) sCap * i.bytes <= (2 * (2 * 2147483648 + 1048576) + 768) * 4096 := Nat.mul_le_mul (by omega) hby
  have : (2 * (2 * 2147483648 + 1048576) + 768) * 4096 <= 2 ^ 48 := by decide
  omega
 refine ⟨Question.cut (.appendCap (sLen + n) sCap elem) (w.tape w.drawn (.appendCap (sLen + n) sCap elem)), { w with drawn := w.drawn + 1 }, ?_, rfl, rfl, rfl, rfl, ?_⟩
 ·simp only [Question.cut]; omega
 ·have hneg : ¬ (sLen + n <= sCap) := by omega
  simp only [Builtin.append_, List.getElem?_toArray, List.getElem?_cons_zero, List.getElem?_cons_succ, Sem.run_bind, aN hd, cb hi, Result.andThen_ok, aN hu, Sem.run_pure, hlen, Bool.false_eq_true, if_false, if_neg hneg, false_or]; have hmax : IntKind.i64.max = 9223372036854775807 := by decide
  have hneg2 : ¬ (((sLen + n : Nat) : Int) > IntKind.i64.max /\ i.bytes = 0) := by rw [hmax]; omega
  have ho := hold { w with drawn := w.drawn + 1 } rfl; have hf := hfirst { w with drawn := w.drawn + 1 } rfl; simp only [qc hi, Result.andThen_ok, if_neg hneg2, Sem.run_bind, if_neg hle48, run_choose, Question.forced, Bool.false_eq_true, if_false, run_askRoom, ho, Bool.not_false, if_true, hf, hzero, newRow, run_newObj, Sem.run_pure]
theorem uD {t u elem e2 ti : TypeId} {i : TypeInfo} {y : Value} {n : Nat} (hd : P.underlying t = some (.slice elem)) (hi : P.info? elem = some i) (hu : P.underlying u = some (.slice e2))
    (hlen : (Builtin.lenOf y).run P w = .ok n w) (hfirst : (Builtin.firstCells i.size n y).run P w = .ok ([] : List Value).toArray w) (A : Option Addr) (sLen sCap : Nat) (hcap : sLen + n <= sCap) :
    (Builtin.append_ #[t, u] ti #[.slice A sLen sCap, y]).run P w = .ok (.slice A (sLen + n) sCap) w := by
 simp only [Builtin.append_, List.getElem?_toArray, List.getElem?_cons_zero, List.getElem?_cons_succ, Sem.run_bind, aN hd, cb hi, Result.andThen_ok, aN hu, Sem.run_pure, hlen, Bool.false_eq_true, if_false, if_pos hcap, Bool.not_false, if_true, hfirst]; cases A with
 | none => simp only [Sem.run_pure, Sem.run_bind, Result.andThen_ok]
 | some a => simp only [storeCells, Sem.run_pure, Sem.run_bind, Result.andThen_ok]
theorem Eh {t u elem e2 ti : TypeId} {i : TypeInfo} {y : Value} {n : Nat} {us : List Value} (hd : P.underlying t = some (.slice elem)) (hi : P.info? elem = some i) (hu : P.underlying u = some (.slice e2))
    (hlen : (Builtin.lenOf y).run P w = .ok n w) (hfirst : (Builtin.firstCells i.size n y).run P w = .ok us.toArray w) (a : Addr) (sLen sCap : Nat) (hcap : sLen + n <= sCap) {w' : World}
    (hst : (storeCells (a.add (sLen * i.size)) us).run P w = .ok () w') :
    (Builtin.append_ #[t, u] ti #[.slice (some a) sLen sCap, y]).run P w = .ok (.slice (some a) (sLen + n) sCap) w' := by
 simp only [Builtin.append_, List.getElem?_toArray, List.getElem?_cons_zero, List.getElem?_cons_succ, Sem.run_bind, aN hd, cb hi, Result.andThen_ok, aN hu, Sem.run_pure, hlen, Bool.false_eq_true, if_false, if_pos hcap, Bool.not_false, if_true, hfirst, hst]
theorem nF : ∀ {ks : aJ} {e : E} {j m : Nat} {bY : ch}, (bX ks e j)[m]? = some bY -> ∃ k, ks.get m = some k /\ bY = .tc k e (j + m)
 | .nil, _, _, _, _, h => by simp [bX] at h
 | .cons k r, e, j, 0, bY, h => by
   simp only [bX, List.getElem?_cons_zero, Option.some.injEq] at h; exact ⟨k, rfl, h.symm⟩
 | .cons k r, e, j, m + 1, bY, h => by
   simp only [bX, List.getElem?_cons_succ] at h; obtain ⟨k', h1, h2⟩ := nF h; exact ⟨k', h1, by rw [h2]; congr 1; omega⟩
theorem qx : ∀ {ks : aJ} {e : E} {j : Nat}, (bX ks e j).length = ks.len
 | .nil, _, _ => rfl
 | .cons k r, e, j => by simp [bX, aJ.len, qx (ks := r)]
theorem wv {ks : aJ} {e : E} {us : List Value} (hl : us.length = (e.den env).T.length * ks.len) (hr : ∀ i, i < (e.den env).T.length -> ks.Rel ρ.fz (fun j => (e.den env).at i j) (fun j => us[i * ks.len + j]?) 0) :
    eH env ρ ks.len (fZ .ab e) (bX ks e 0) [] us := by
 have ht : ((fZ .ab e).den env).I = ((e.den env).T.length : Int) := by rw [bA]; rfl
 refine ⟨us, [], (List.append_nil us).symm, by rw [ht, Int.toNat_natCast, hl], fun i hi j bY hc => ?_, rfl, (fun t h => by cases h), by rw [qx]; exact Nat.le_refl _⟩
 rw [ht, Int.toNat_natCast] at hi; obtain ⟨k, h1, rfl⟩ := nF hc; obtain ⟨v, h2, h3⟩ := (hr i hi).get h1; rw [Nat.zero_add] at h2 h3 ⊢; refine ⟨v, h2, ?_⟩; rw [ch.at, cM]; exact h3
theorem mV (a b : E) : ((bB a b).den env).T = (a.den env).T ++ (b.den env).T := by
 unfold bB; split
 ·rfl
 ·show _ = _ ++ []; rw [List.append_nil]
 ·rfl
theorem gA {a b : IntKind} (h : fy a b = true) : a = b := by cases a <;> cases b <;> first | rfl | (cases h)
theorem sH {α : Type} {sz : Nat} : ∀ {l : List (List α)}, (∀ t ∈ l, t.length = sz) -> l.flatten.length = l.length * sz
 | [], _ => by simp
 | t :: l, h => by rw [List.flatten_cons, List.length_append, h t (List.mem_cons_self ..), sH fun u hu => h u (List.mem_cons_of_mem _ hu), List.length_cons, Nat.succ_mul]; omega
theorem rk (e : Env) (a i : E) (m : Nat) : ((yw a i).den e).at 0 m = (a.den e).at (i.den e).I.toNat m := by
 unfold yw; split
 ·rfl
 ·show (((List.take 1 (List.drop (i.den e).I.toNat (a.den e).T))[0]?).getD [])[m]?.getD (.i 0) = _; rw [List.getElem?_take_of_lt (by omega), List.getElem?_drop, Nat.add_zero]
  rfl
theorem vt : ∀ {k : DK} {x : SV} {e : E} {v : Value}, jk k x = some e -> x.Rel env ρ v -> k.Rel ρ.fz (e.den env) v := by
 intro k x e v h hx; cases k with
 | int k =>
   cases x <;> simp only [jk] at h <;> try (cases h; done)
   rename_i k' a; cases hk : fy k k' with
   | false => rw [hk] at h; cases h
   | true =>
     rw [hk] at h; simp only [cond_true, Option.some.injEq] at h; subst h; rw [gA hk]; exact hx
 | bool => cases x <;> simp only [jk] at h <;> try (cases h; done)
           simp only [Option.some.injEq] at h; subst h; exact hx
 | str => cases x <;> simp only [jk] at h <;> try (cases h; done)
          simp only [Option.some.injEq] at h; subst h; exact hx
 | sl ks =>
   cases x <;> simp only [jk] at h <;> try (cases h; done)
   ·simp only [Option.some.injEq] at h; subst h; simp only [SV.Rel] at hx; subst hx; simp only [DK.Rel]; exact ⟨none, 0, rfl, Nat.le_refl 0, fun hl => absurd hl (Nat.lt_irrefl 0)⟩
   ·rename_i ks' a; cases hk : ks.same ks' with
    | false => rw [hk] at h; cases h
    | true =>
      rw [hk] at h; simp only [cond_true, Option.some.injEq] at h; subst h; rw [aJ.ax hk]; exact hx
   ·rename_i ks' a; cases hk : ks.same ks' with
    | false => rw [hk] at h; cases h
    | true =>
      rw [hk] at h; simp only [cond_true, Option.some.injEq] at h; subst h; rw [aJ.ax hk]; exact hx.1
 | fp ks =>
   cases x with
   | dC ks' a i j =>
     cases j with
     | succ j => cases h
     | zero =>
       simp only [jk] at h; cases hk : ks.same ks' with
       | false => rw [hk] at h; cases h
       | true =>
         rw [hk] at h; simp only [cond_true, Option.some.injEq] at h; subst h; simp only [SV.Rel] at hx; obtain ⟨b, o, rfl, hr⟩ := hx; rw [aJ.ax hk]; simp only [DK.Rel]; refine ⟨b, o, rfl, ?_⟩; rw [show (fun j => ((yw a i).den env).at 0 j) = fun j => (a.den env).at (i.den env).I.toNat j from funext fun m => rk env a i m]; exact hr
   | _ => cases h
 | eh t k =>
   cases x with
   | eh t' x =>
     simp only [jk] at h; cases hk : Nat.beq t t' with
     | false => rw [hk] at h; cases h
     | true =>
       rw [hk] at h; obtain rfl := Nat.eq_of_beq_eq_true hk; simp only [SV.Rel] at hx; obtain ⟨y, rfl, hy⟩ := hx; simp only [DK.Rel]; exact ⟨y, rfl, vt (k := k) h hy⟩
   | _ => cases h
 | nilm =>
   cases x with
   | cC => exact hx
   | _ => cases h
 | ap T =>
   cases x with
   | gm =>
     simp only [jk, Option.some.injEq] at h; subst h; simp only [DK.Rel]; exact .inl ⟨(by show (-1 : Int) < 0; decide), hx⟩
   | pq T' a j =>
     cases j with
     | succ j => cases h
     | zero =>
       simp only [jk] at h; cases hk : Nat.beq T T' with
       | false => rw [hk] at h; cases h
       | true =>
         rw [hk] at h; simp only [cond_true, Option.some.injEq] at h; subst h; rw [Nat.eq_of_beq_eq_true hk]; simp only [SV.Rel] at hx; simp only [DK.Rel]; exact hx
   | _ => cases h
theorem BI : ∀ {ks : aJ} {t : List SV} {e : E} {vs : List Value}, AM ks t = some e -> SV.aD env ρ t vs ->
    ∃ r, (e.den env).T.head?.getD [] = r /\ (0 < ks.len -> (e.den env).T = [r]) /\ ∀ (row : Nat -> Dv) (cell : Nat -> Option Value) j, (∀ m, row (j + m) = (r[m]?).getD (.i 0)) -> (∀ m, m < ks.len -> cell (j + m) = vs[m]?) -> ks.Rel ρ.fz row cell j
 | .nil, [], e, vs, h, _ => by
   simp only [AM, Option.some.injEq] at h; subst h; exact ⟨[], rfl, fun h => absurd h (Nat.lt_irrefl 0), fun _ _ _ _ _ => trivial⟩
 | .nil, _ :: _, _, _, h, _ => by cases h
 | .cons _ _, [], _, _, h, _ => by cases h
 | .cons k r, x :: xs, e, vs, h, hr => by
   simp only [AM] at h; split at h
   ·rename_i a b h1 h2; injection h with h; subst h; simp only [SV.aD] at hr; obtain ⟨v, q, rfl, hx, hxs⟩ := hr; obtain ⟨l, e1, _, e3⟩ := BI h2 hxs; refine ⟨a.den env :: l, ?_, fun _ => ?_, fun row cell j hrow hcell => ?_⟩
    ·show ((a.den env) :: ((b.den env).T.head?.getD [])) = _; rw [e1]
    ·show [((a.den env) :: ((b.den env).T.head?.getD []))] = _; rw [e1]
    ·simp only [aJ.Rel]; refine ⟨⟨v, by have := hcell 0 (Nat.succ_pos _); simpa using this, ?_⟩, e3 row cell (j + 1) (fun m => ?_) (fun m hm => ?_)⟩
     ·have := hrow 0; rw [Nat.add_zero] at this; rw [this]; exact vt h1 hx
     ·have := hrow (m + 1); rw [show j + (m + 1) = j + 1 + m by omega] at this
      rw [this]; simp
     ·have := hcell (m + 1) (by simp only [aJ.len]; omega)
      rw [show j + (m + 1) = j + 1 + m by omega] at this
      rw [this]; simp
   ·cases h
theorem wS {ks : aJ} (hk : 0 < ks.len) : ∀ {tail : List (List SV)} {e : E} {tl : List Value}, om ks tail = some e -> SV.aD env ρ tail.flatten tl -> (∀ t ∈ tail, t.length = ks.len) ->
    (e.den env).T.length = tail.length /\ ∀ i, i < tail.length -> ks.Rel ρ.fz (fun j => (e.den env).at i j) (fun j => tl[i * ks.len + j]?) 0
 | [], e, tl, h, _, _ => by
   simp only [om, Option.some.injEq] at h; subst h; exact ⟨rfl, fun i hi => absurd hi (Nat.not_lt_zero i)⟩
 | t :: r, e, tl, h, hr, hl => by
   simp only [om] at h; split at h
   ·rename_i a b h1 h2; injection h with h; subst h; have ht := hl t (List.mem_cons_self ..); rw [List.flatten_cons] at hr; have hra := hr.take t.length; have hrb := hr.drop t.length; rw [List.take_left] at hra; rw [List.drop_left] at hrb; obtain ⟨l, e1, e2, e3⟩ := BI h1 hra; have e2 := e2 hk; obtain ⟨g1, g2⟩ := wS hk h2 hrb (fun u hu => hl u (List.mem_cons_of_mem _ hu)); have hT : ((bB a b).den env).T = l :: (b.den env).T := by rw [mV, e2]; rfl
    refine ⟨by rw [hT, List.length_cons, g1, List.length_cons], fun i hi => ?_⟩
    cases i with
    | zero =>
      refine e3 _ _ 0 (fun m => ?_) (fun m hm => ?_)
      ·show Dv.at _ 0 (0 + m) = _; unfold Dv.at; rw [hT, Nat.zero_add]; rfl
      ·show tl[0 * ks.len + (0 + m)]? = _; rw [Nat.zero_mul, Nat.zero_add, Nat.zero_add, List.getElem?_take_of_lt (by omega)]
    | succ i =>
      have := g2 i (by simpa using hi)
      have e4 : (fun j => ((bB a b).den env).at (i + 1) j) = fun j => (b.den env).at i j := by
       funext j
       unfold Dv.at; rw [hT]; rfl
      have e5 : (fun j => tl[(i + 1) * ks.len + j]?) = fun j => (tl.drop t.length)[i * ks.len + j]? := by
       funext j
       rw [List.getElem?_drop, ht]
       congr 1
       rw [Nat.succ_mul]; omega
      rw [e4, e5]; exact this
   ·cases h
theorem rm {e : E} {i : Nat} {f : Nat -> Option Value} : ∀ {ks : aJ} {j : Nat} {cols : List ch}, jO ks e j cols = true -> (∀ (m : Nat) (bY : ch), cols[m]? = some bY -> ∃ v, f (j + m) = some v /\ (bY.at (.il i)).Rel env ρ v) ->
    ks.Rel ρ.fz (fun j => (e.den env).at i j) f j /\ cols.length = ks.len
 | .nil, j, [], _, _ => ⟨trivial, rfl⟩
 | .nil, _, _ :: _, h, _ => by cases h
 | .cons _ _, _, [], h, _ => by cases h
 | .cons k r, j, c :: cs, h, hc => by
   cases c with
   | tc k' e' j' =>
     simp only [jO, Bool.and_eq_true] at h; obtain ⟨⟨⟨h1, h2⟩, h3⟩, h4⟩ := h
     obtain ⟨g1, g2⟩ := rm (i := i) (f := f) h4 (fun m bY hm => by
      have := hc (m + 1) bY (by simpa using hm)
      rw [show j + (m + 1) = j + 1 + m by omega] at this
      exact this)
     refine ⟨?_, by simp [g2, aJ.len]⟩
     simp only [aJ.Rel]; refine ⟨?_, g1⟩; obtain ⟨v, hv, hr⟩ := hc 0 _ rfl; refine ⟨v, by simpa using hv, ?_⟩
     rw [ch.at, cM, <- DK.ax h1, <- E.ax h2, <- Nat.eq_of_beq_eq_true h3] at hr; exact hr
   | _ => cases h
theorem FJ {ks : aJ} (hk : 0 < ks.len) {cols : List ch} {a rl : E} {base : List Value} (h : u7 ks cols = some a) (hrl : (rl.den env).I = ((a.den env).T.length : Int))
    (hb : ∀ i : Nat, i < (rl.den env).I.toNat -> ∀ (j : Nat) (bY : ch), cols[j]? = some bY -> ∃ v, base[i * ks.len + j]? = some v /\ (bY.at (.il i)).Rel env ρ v) :
    ∀ i, i < (a.den env).T.length -> ks.Rel ρ.fz (fun j => (a.den env).at i j) (fun j => base[i * ks.len + j]?) 0 := by
 unfold u7 at h; intro i hi; split at h
 ·rename_i e he; cases hp : jO ks e 0 cols with
  | false => rw [hp] at h; cases h
  | true =>
    rw [hp] at h; simp only [cond_true, Option.some.injEq] at h; subst h
    exact (rm (f := fun j => base[i * ks.len + j]?) hp fun m bY hm => by
     have := hb i (by omega) m bY hm
     rw [Nat.zero_add]; exact this).1
 ·cases hc : cols.isEmpty with
  | false => rw [hc] at h; cases h
  | true =>
    rw [hc] at h; simp only [cond_true, Option.some.injEq] at h; subst h; exact absurd hi (Nat.not_lt_zero i)
theorem Fp {ks : aJ} (hk : 0 < ks.len) {rl a tl : E} {cols : List ch} {tail : List (List SV)} {vs : List Value} (h1 : u7 ks cols = some a) (h2 : om ks tail = some tl) (hrl : (rl.den env).I = ((a.den env).T.length : Int))
    (hr : eH env ρ ks.len rl cols tail vs) : vs.length = ((bB a tl).den env).T.length * ks.len /\ ((bB a tl).den env).T.length = (a.den env).T.length + tail.length /\
     ∀ i, i < ((bB a tl).den env).T.length -> ks.Rel ρ.fz (fun j => ((bB a tl).den env).at i j) (fun j => vs[i * ks.len + j]?) 0 := by
 obtain ⟨base, t, rfl, hb1, hb2, ht1, ht2, _⟩ := hr; have hrn : (rl.den env).I.toNat = (a.den env).T.length := by omega
 have g := FJ hk h1 hrl hb2; obtain ⟨k1, k2⟩ := wS hk h2 ht1 ht2; have hT : ((bB a tl).den env).T = (a.den env).T ++ (tl.den env).T := mV a tl; have hTl : ((bB a tl).den env).T.length = (a.den env).T.length + tail.length := by rw [hT, List.length_append, k1]
 have hbl : base.length = (a.den env).T.length * ks.len := by rw [hb1, hrn]
 have htl : t.length = tail.length * ks.len := by rw [ht1.length, sH ht2]
 refine ⟨by rw [List.length_append, hbl, htl, hTl, Nat.add_mul], hTl, fun i hi => ?_⟩
 by_cases hka : i < (a.den env).T.length
 ·refine aJ.Rel.congr (g i hka) (fun m _ => ?_) (fun m v hm hv => ?_)
  ·show Dv.at _ _ _ = Dv.at _ _ _; unfold Dv.at; rw [hT, List.getElem?_append_left hka]
  ·have hv : base[i * ks.len + (0 + m)]? = some v := hv; show (base ++ t)[i * ks.len + (0 + m)]? = some v; rw [List.getElem?_append_left (List.getElem?_eq_some_iff.1 hv).1]; exact hv
 ·obtain ⟨q, rfl⟩ : ∃ q, i = (a.den env).T.length + q := ⟨i - (a.den env).T.length, by omega⟩
  refine aJ.Rel.congr (k2 q (by omega)) (fun m _ => ?_) (fun m v hm hv => ?_)
  ·show Dv.at _ _ _ = Dv.at _ _ _; unfold Dv.at; rw [hT, List.getElem?_append_right (by omega), Nat.add_sub_cancel_left]
  ·have hv : t[q * ks.len + (0 + m)]? = some v := hv; show (base ++ t)[((a.den env).T.length + q) * ks.len + (0 + m)]? = some v; rw [List.getElem?_append_right (by rw [hbl, Nat.add_mul]; omega), hbl, Nat.add_mul, show (a.den env).T.length * ks.len + q * ks.len + (0 + m) - (a.den env).T.length * ks.len = q * ks.len + (0 + m) by omega]
   exact hv
theorem EL (H : az env w0 ρ h w) {t u : TypeId} {elem ti e2 : TypeId} {i : TypeInfo} {zv : Value} {s r : SV} {v y : Value} {ks : aJ} {e : E} (hd : P.underlying t = some (.slice elem)) (hi : P.info? elem = some i) (hu : P.underlying u = some (.slice e2)) (h0 : 0 < i.size) (hby : i.bytes <= 4096)
    (hzero : ∀ w', (zeroValue elem).run P w' = .ok zv w') (hzs : zv.cells.size = i.size) (hs : s.Rel env ρ v) (hy : (SV.cg ks e).Rel env ρ y)
    (he : (By P nm elem i.size s ks e).bx env h r h') : aF P env w0 ρ nm h' w (Builtin.append_ #[t, u] ti #[v, y]) r := by
 simp only [By, run_bind, aq, gX] at he; obtain ⟨_, _, ⟨hsz, rfl⟩, b, _, ⟨hb, rfl⟩, he⟩ := he; have hsz := Nat.eq_of_beq_eq_true hsz; simp only [SV.Rel] at hy; obtain ⟨us, u1, u2, uone, ⟨Ay, capy, rfl, hcapy, hAy⟩, u3, u4⟩ := wo (P := P) H hy
 have hb : ((e.den env).T.length = 0) ↔ b = true := by
  rw [<- hb, bn]; show _ ↔ (((fZ .ab e).den env).I == 0) = true; rw [bA]; show _ ↔ ((((e.den env).T.length : Nat) : Int) == 0) = true; rw [beq_iff_eq]; omega
 rw [hsz] at u4
 have none_ : ∀ (A : Option Addr) (sLen sCap : Nat), sLen <= sCap -> (e.den env).T.length = 0 -> (Builtin.append_ #[t, u] ti #[.slice A sLen sCap, .slice Ay (e.den env).T.length capy]).run P w = .ok (.slice A sLen sCap) w := by
  intro A sLen sCap hcap hz; have hus : us = [] := by apply List.eq_nil_of_length_eq_zero; rw [u1, hz, Nat.zero_mul]
  rw [uD (ti := ti) hd hi hu u3 (by rw [<- hus]; exact u4 w rfl) A sLen sCap (by omega), hz, Nat.add_zero]
 have fresh : ∀ (A : Option Addr) (sLen sCap : Nat) (iM : List Value) (T : E), sCap < sLen + (e.den env).T.length -> sLen + (e.den env).T.length <= 2 * 2147483648 + 1048576 -> iM.length = sLen * i.size ->
     (∀ w' : World, w'.heap = w.heap -> (Builtin.firstCells i.size sLen (.slice A sLen sCap)).run P w' = .ok iM.toArray w') -> ay h nm = some .dP -> (T.den env).T.length = sLen + (e.den env).T.length ->
     (∀ k, k < (T.den env).T.length -> ks.Rel ρ.fz (fun j => (T.den env).at k j) (fun j => (iM ++ us)[k * ks.len + j]?) 0) ->
     aF P env w0 ρ nm (bf h nm (.row elem i.size (fZ .ab T) (bX ks T 0) [])) w (Builtin.append_ #[t, u] ti #[.slice A sLen sCap, .slice Ay (e.den env).T.length capy]) (.sl nm i.size (.il 0) (fZ .ab T)) := by
  intro A sLen sCap iM T hcap hbig holdl hold hn hT hrel; obtain ⟨newCap, w1, q1, q2, q3, q4, q5, hrun⟩ := uc (ti := ti) hd hi hu hby hzero u3 u4 A sLen sCap iM.toArray hcap hbig hold; have H1 := H.drawn (w' := w1) q2 q3 q4 q5; have hlen : (iM ++ us).length = (T.den env).T.length * ks.len := by rw [List.length_append, holdl, u1, hT, hsz, Nat.add_mul]
  have hrow : eH env ρ i.size (fZ .ab T) (bX ks T 0) [] (iM ++ us) := by
   rw [<- hsz]; exact wv hlen hrel
  have hsize : (iM ++ us ++ (Builtin.zeroCells zv.cells (newCap - (sLen + (e.den env).T.length))).toList).length = newCap * i.size := by
   simp only [List.length_append, Array.length_toList, ie, hzs, holdl, u1, hsz, <- Nat.add_mul]
   congr 1; omega
  have hnr := sd (T := elem) (rest := (Builtin.zeroCells zv.cells (newCap - (sLen + (e.den env).T.length))).toList) (cap := newCap) H1 hn hrow hsize; rw [q2] at hnr; obtain ⟨hle, H'⟩ := hnr; have ht : ((fZ .ab T).den env).I = ((T.den env).T.length : Int) := by rw [bA]; rfl
  refine ⟨_, _, _, hrun, hle, dU _, ?_, ⟨_, some ⟨w.heap.size, 0, none⟩, ca _, ?_, ?_, ?_, ?_, Int.le_refl 0⟩⟩
  ·have e : (iM.toArray ++ us.toArray ++ Builtin.zeroCells zv.cells (newCap - (sLen + (e.den env).T.length))) = (iM ++ us ++ (Builtin.zeroCells zv.cells (newCap - (sLen + (e.den env).T.length))).toList).toArray := by
     apply Array.ext'; simp
   rw [e, q2]; exact H'
  ·rw [ht, hT, dS]; simp only [Int.toNat_natCast, Int.toNat_zero, Nat.sub_zero]
  ·simp
  ·intro _; rw [dS]; simp
  ·rw [ht, hT, dS]; simp; omega
 cases s with
 | cr =>
   simp only [SV.Rel] at hs; subst hs; cases b with
   | true =>
     simp only [run_pure] at he; obtain ⟨rfl, rfl⟩ := he; exact aF.same (v := .slice none 0 0) H (none_ none 0 0 (Nat.le_refl 0) (hb.2 rfl)) rfl
   | false =>
     simp only [run_bind, bU, eB, run_pure, cq, dS] at he; obtain ⟨_, _, ⟨hv, rfl⟩, _, _, ⟨hn, rfl⟩, rfl, rfl⟩ := he; rw [bA, AO] at hv; have hz : (e.den env).T.length ≠ 0 := fun h => by have := hb.1 h; cases this
     refine fresh none 0 0 [] e (by omega) (by omega) (by simp) (fun w' _ => rfl) hn (by omega) (fun k hk => ?_)
     exact u2 k hk
 | gV ks' a =>
   simp only [run_bind, aq] at he; obtain ⟨_, _, ⟨hk, rfl⟩, he⟩ := he; obtain rfl := aJ.ax hk; have hs0 := hs; simp only [SV.Rel] at hs; obtain ⟨hs1, A', n', rfl⟩ := hs; obtain ⟨os, o1, o2, _, ⟨A, cap, ho, hcap, _⟩, o3, o4⟩ := wo (P := P) H hs1; injection ho with e1 e2 e3; subst e1; subst e2; subst e3; rw [hsz] at o4; cases b with
   | true =>
     simp only [run_pure] at he; obtain ⟨rfl, rfl⟩ := he; exact aF.same H (none_ A' _ _ (Nat.le_refl _) (hb.2 rfl)) hs0
   | false =>
     simp only [run_bind, bU, eB, run_pure, cq, dS] at he; obtain ⟨_, _, ⟨hv, rfl⟩, _, _, ⟨hn, rfl⟩, rfl, rfl⟩ := he; have hT : ((bB a e).den env).T = (a.den env).T ++ (e.den env).T := mV a e; have hTl : ((bB a e).den env).T.length = (a.den env).T.length + (e.den env).T.length := by rw [hT, List.length_append]
     rw [bA, AO] at hv; have hz : (e.den env).T.length ≠ 0 := fun h => by have := hb.1 h; cases this
     refine fresh A' _ _ os (bB a e) (by omega) (by omega) (by rw [o1, hsz]) o4 hn hTl (fun k hk => ?_)
     by_cases hka : k < (a.den env).T.length
     ·refine aJ.Rel.congr (o2 k hka) (fun m _ => ?_) (fun m v hm hv => ?_)
      ·show Dv.at _ _ _ = Dv.at _ _ _; unfold Dv.at; rw [hT, List.getElem?_append_left hka]
      ·have hv : os[k * ks.len + (0 + m)]? = some v := hv; show (os ++ us)[k * ks.len + (0 + m)]? = some v; rw [List.getElem?_append_left (List.getElem?_eq_some_iff.1 hv).1]; exact hv
     ·obtain ⟨q, rfl⟩ : ∃ q, k = (a.den env).T.length + q := ⟨k - (a.den env).T.length, by omega⟩
      refine aJ.Rel.congr (u2 q (by omega)) (fun m _ => ?_) (fun m v hm hv => ?_)
      ·show Dv.at _ _ _ = Dv.at _ _ _; unfold Dv.at; rw [hT, List.getElem?_append_right (by omega), Nat.add_sub_cancel_left]
      ·have hv : us[q * ks.len + (0 + m)]? = some v := hv; show (os ++ us)[((a.den env).T.length + q) * ks.len + (0 + m)]? = some v; rw [List.getElem?_append_right (by rw [o1, Nat.add_mul]; omega), o1, Nat.add_mul, show (a.den env).T.length * ks.len + q * ks.len + (0 + m) - (a.den env).T.length * ks.len = q * ks.len + (0 + m) by omega]
       exact hv
 | sl n sz' lo len =>
   split at he
   ·rename_i heq; cases heq
   ·rename_i heq; cases heq
   ·rename_i n' sz2 len2 heq; injection heq with e1 e2 e3 e4; subst e1; subst e2; subst e3; subst e4; simp only [run_bind, aq, aU] at he; obtain ⟨_, _, ⟨hsz', rfl⟩, ob, _, ⟨ho, rfl⟩, he⟩ := he; obtain rfl := Nat.eq_of_beq_eq_true hsz'; cases ob with
    | row T sz3 rl cols tail =>
      simp only [run_bind, aq, ae, bU] at he; obtain ⟨_, _, ⟨hsz3, rfl⟩, _, _, ⟨hT, rfl⟩, a, _, ⟨ha, rfl⟩, tl, _, ⟨htl, rfl⟩, _, _, ⟨hv1, rfl⟩, _, _, ⟨hv2, rfl⟩, he⟩ := he; obtain rfl := Nat.eq_of_beq_eq_true hsz3; obtain rfl := Nat.eq_of_beq_eq_true hT; obtain ⟨p, vs, rest, g1, g2, g3, g4, hrow, g6, g7⟩ := H.bk n _ ho; have hs0 := hs; simp only [SV.Rel] at hs; obtain ⟨q, A, hq, rfl, hx2, hx3, hx1, _⟩ := hs; obtain rfl : q = p := by rw [g1] at hq; exact (Option.some.inj hq).symm
      have hrl : (rl.den env).I = ((a.den env).T.length : Int) := by
       rw [bn] at hv1; have hv1 : ((rl.den env).I == ((fZ .ab a).den env).I) = true := hv1; rw [bA] at hv1; exact eq_of_beq hv1
      have hpos : 0 < ks.len := by rw [hsz]; exact h0
      rw [<- hsz] at hrow g6; obtain ⟨v1, v2, v3⟩ := Fp hpos ha htl hrl hrow
      have hlen : (len.den env).I.toNat = ((bB a tl).den env).T.length := by
       rw [bn] at hv2; have hv2 : ((len.den env).I == ((iQ rl tail).den env).I) = true := hv2; have := eq_of_beq hv2; unfold iQ at this; rw [jA] at this; have e1 : ((E.il (tail.length : Nat)).den env).I = (tail.length : Int) := rfl; rw [e1] at this; omega
      generalize htc : bB a tl = A0 at *
      obtain ⟨ad, hA⟩ : ∃ ad, A = some ad := by
       cases hAA : A with
       | none => rw [hx2] at hAA; rw [g4] at hAA; cases hAA
       | some ad => exact ⟨ad, rfl⟩
      subst hA; have hcap0 : q.cap - ((E.il 0).den env).I.toNat = q.cap := by rw [dS]; simp
      have hl0 : ((E.il 0).den env).I.toNat = 0 := by rw [dS]; rfl
      have hLc : (A0.den env).T.length <= q.cap := by rw [<- hlen]; rw [hl0, Nat.zero_add] at hx1; exact hx1
      rw [hcap0, hlen]; cases b with
      | true =>
        simp only [run_pure] at he; obtain ⟨rfl, rfl⟩ := he; rw [hcap0, hlen] at hs0; refine aF.same H (none_ (some ad) _ _ hLc (hb.2 rfl)) ?_; refine ⟨q, some ad, hq, by rw [hcap0, hlen], hx2, hx3, hx1, Int.le_refl 0⟩
      | false =>
        simp only [run_bind, bU, bD, eB, run_pure, cq, dS] at he; obtain ⟨_, _, ⟨hv, rfl⟩, _, _, rfl, _, _, ⟨hn, rfl⟩, rfl, rfl⟩ := he; have hT2 : ((bB A0 e).den env).T = (A0.den env).T ++ (e.den env).T := mV A0 e; have hTl : ((bB A0 e).den env).T.length = (A0.den env).T.length + (e.den env).T.length := by rw [hT2, List.length_append]
        rw [bA, AO] at hv; have hz : (e.den env).T.length ≠ 0 := fun h => by have := hb.1 h; cases this
        have hne : nm ≠ n := fun e => by
         subst e; rw [ai, if_pos rfl] at hn; cases hn
        have hnm : ay h nm = some .dP := by rw [ai, if_neg hne] at hn; exact hn
        have ht : ((fZ .ab (bB A0 e)).den env).I = (((bB A0 e).den env).T.length : Int) := by rw [bA]; rfl
        have hvl : (vs ++ us).length = ((bB A0 e).den env).T.length * ks.len := by rw [List.length_append, v1, u1, hTl, Nat.add_mul]
        have hrel : ∀ k, k < ((bB A0 e).den env).T.length -> ks.Rel ρ.fz (fun j => ((bB A0 e).den env).at k j) (fun j => (vs ++ us)[k * ks.len + j]?) 0 := by
         intro k hk
         by_cases hka : k < (A0.den env).T.length
         ·refine aJ.Rel.congr (v3 k hka) (fun m _ => ?_) (fun m v hm hv => ?_)
          ·show Dv.at _ _ _ = Dv.at _ _ _; unfold Dv.at; rw [hT2, List.getElem?_append_left hka]
          ·have hv : vs[k * ks.len + (0 + m)]? = some v := hv; show (vs ++ us)[k * ks.len + (0 + m)]? = some v; rw [List.getElem?_append_left (List.getElem?_eq_some_iff.1 hv).1]; exact hv
         ·obtain ⟨x, rfl⟩ : ∃ x, k = (A0.den env).T.length + x := ⟨k - (A0.den env).T.length, by omega⟩
          refine aJ.Rel.congr (u2 x (by omega)) (fun m _ => ?_) (fun m v hm hv => ?_)
          ·show Dv.at _ _ _ = Dv.at _ _ _; unfold Dv.at; rw [hT2, List.getElem?_append_right (by omega), Nat.add_sub_cancel_left]
          ·have hv : us[x * ks.len + (0 + m)]? = some v := hv; show (vs ++ us)[((A0.den env).T.length + x) * ks.len + (0 + m)]? = some v; rw [List.getElem?_append_right (by rw [v1, Nat.add_mul]; omega), v1, Nat.add_mul, show (A0.den env).T.length * ks.len + x * ks.len + (0 + m) - (A0.den env).T.length * ks.len = x * ks.len + (0 + m) by omega]
           exact hv
        have hrow' : eH env ρ i.size (fZ .ab (bB A0 e)) (bX ks (bB A0 e) 0) [] (vs ++ us) := by rw [<- hsz]; exact wv hvl hrel
        rw [hsz] at v1 g6
        by_cases hfit : (A0.den env).T.length + (e.den env).T.length <= q.cap
        ·have hus : us.length = (e.den env).T.length * i.size := by rw [u1, hsz]
         have hin : (A0.den env).T.length * i.size + us.length <= (vs ++ rest).toArray.size := by
          simp only [List.size_toArray, g6, hus, <- Nat.add_mul]; exact Nat.mul_le_mul_right _ hfit
         have hdrop : us.length <= rest.length := by
          have := g6; rw [List.length_append, v1] at this; simp only [List.size_toArray, g6] at hin; omega
         have had := hx3 (by rw [hl0]; omega)
         injection had with had; subst had
         have hstore : (storeCells (Addr.add ⟨q.block, q.base + ((E.il 0).den env).I.toNat * i.size, none⟩ ((A0.den env).T.length * i.size)) us).run P w = .ok () (w.bd q.block (.cells (vs ++ us ++ rest.drop us.length).toArray T (0, 0))) := by
          simp only [g3, cT, dS, Int.toNat_zero, Nat.zero_mul, Nat.zero_add]; have := dE (P := P) (off := (A0.den env).T.length * i.size) us w (vs ++ rest).toArray 0 g7 uone (by simpa using hin)
          rw [this]
          congr 3
          apply Array.ext'; rw [cN _ _ _ (by simpa using hin)]
          simp only [Nat.add_zero]; rw [<- v1, List.take_left, List.drop_append, List.drop_of_length_le (by omega), Nat.add_sub_cancel_left]
          simp
         have hrun : (Builtin.append_ #[t, u] ti #[.slice (some ⟨q.block, q.base + ((E.il 0).den env).I.toNat * i.size, none⟩) (A0.den env).T.length q.cap, .slice Ay (e.den env).T.length capy]).run P w =
             .ok (.slice (some ⟨q.block, q.base + ((E.il 0).den env).I.toNat * i.size, none⟩) ((A0.den env).T.length + (e.den env).T.length) q.cap) (w.bd q.block (.cells (vs ++ us ++ rest.drop us.length).toArray T (0, 0))) :=
          Eh hd hi hu u3 (u4 w rfl) _ _ q.cap hfit hstore
         have hnr : (aA.row T i.size (fZ .ab (bB A0 e)) (bX ks (bB A0 e) 0) []).Rel env w0 ρ n (w.bd q.block (.cells (vs ++ us ++ rest.drop us.length).toArray T (0, 0))) :=
          ⟨q, _, rest.drop us.length, hq, g2, g3, g4, hrow', by rw [<- g6]; simp; omega, bq g7⟩
         have H1 := H.update ho rfl hq rfl hnr; have hle := af.mX (H.bk nm .dP hnm) q
         have H2 := H1.move (n := n) (o := .row T i.size (fZ .ab (bB A0 e)) (bX ks (bB A0 e) 0) []) (by rw [ai, if_pos rfl]) rfl hq (by rw [ai, if_neg hne]; exact hnm)
          (by obtain ⟨q', vs', rest', a1, a2, a3, a4, a5, a6, a7⟩ := hnr
              obtain rfl : q' = q := by rw [hq] at a1; exact (Option.some.inj a1).symm
              exact ⟨q', vs', rest', ca _, a2, a3, a4, a5.mono hle, a6, a7⟩)
         refine ⟨_, _, _, hrun, hle, dU _, H2.ext (fun k => ?_), ⟨q, some ⟨q.block, q.base + ((E.il 0).den env).I.toNat * i.size, none⟩, ca _, ?_, ?_, ?_, ?_, Int.le_refl 0⟩⟩
         ·simp only [ai]
          by_cases e1 : k = nm <;> by_cases e2 : k = n <;> simp [e1, e2]
         ·rw [ht, hTl, dS]; simp only [Int.toNat_natCast, Int.toNat_zero, Nat.sub_zero]
         ·rw [g4]; simp
         ·intro hc; rfl
         ·rw [ht, hTl, dS]; simp only [Int.toNat_natCast, Int.toNat_zero, Nat.zero_add]; exact hfit
        ·have Hg := H.Au ho
         have hold : ∀ w' : World, w'.heap = w.heap -> (Builtin.firstCells i.size (A0.den env).T.length (.slice (some ad) (A0.den env).T.length q.cap)).run P w' = .ok vs.toArray w' := by
          intro w' hw'; simp only [Builtin.firstCells]
          by_cases hc0 : q.cap = 0
          ·have hl0 : (A0.den env).T.length = 0 := by omega
           have hb0 : vs = [] := by apply List.eq_nil_of_length_eq_zero; rw [v1, hl0]; simp
           rw [hl0, hb0]; simp [loadCells, loadCellsFrom]
          ·have had := hx3 (by rw [hl0]; omega)
           injection had with had; subst had
           have := run_loadCells_list (P := P) w' ⟨q.block, q.base + ((E.il 0).den env).I.toNat * i.size, none⟩ vs (fun j v hv => by
            have hh : w'.heap[q.block]? = some (.cells (vs ++ rest).toArray T (0, 0)) := by rw [hw']; exact g7
            rw [cT, cell_of hh, g3, dS]; obtain ⟨hz1, _⟩ := List.getElem?_eq_some_iff.1 hv; simp only [Int.toNat_zero, Nat.zero_mul, Nat.zero_add, List.getElem?_toArray]; rw [List.getElem?_append_left hz1]
            exact hv)
           rw [v1] at this; exact this
         obtain ⟨newCap, w1, q1, q2, q3, q4, q5, hrun⟩ := uc (ti := ti) hd hi hu hby hzero u3 u4 (some ad) (A0.den env).T.length q.cap vs.toArray (by omega) (by omega) hold
         have H1 := Hg.drawn (w' := w1) q2 q3 q4 q5
         have hsize : (vs ++ us ++ (Builtin.zeroCells zv.cells (newCap - ((A0.den env).T.length + (e.den env).T.length))).toList).length = newCap * i.size := by
          simp only [List.length_append, Array.length_toList, ie, hzs, v1, u1, hsz, <- Nat.add_mul]
          congr 1; omega
         have hnr := sd (T := T) (rest := (Builtin.zeroCells zv.cells (newCap - ((A0.den env).T.length + (e.den env).T.length))).toList) (cap := newCap) H1 hn hrow' hsize; rw [q2] at hnr; obtain ⟨hle, H'⟩ := hnr; refine ⟨_, _, _, hrun, hle, dU _, ?_, ⟨_, some ⟨w.heap.size, 0, none⟩, ca _, ?_, ?_, ?_, ?_, Int.le_refl 0⟩⟩
         ·have e : (vs.toArray ++ us.toArray ++ Builtin.zeroCells zv.cells (newCap - ((A0.den env).T.length + (e.den env).T.length))) = (vs ++ us ++ (Builtin.zeroCells zv.cells (newCap - ((A0.den env).T.length + (e.den env).T.length))).toList).toArray := by
            apply Array.ext'; simp
          rw [e, q2]; exact H'
         ·rw [ht, hTl, dS]; simp only [Int.toNat_natCast, Int.toNat_zero, Nat.sub_zero]
         ·simp
         ·intro _; rw [dS]; simp
         ·rw [ht, hTl, dS]; simp; omega
    | _ => exact he.elim
   ·exact he.elim
 | _ => exact he.elim
end
section
variable {P : Program} {env : Env} {w0 : Anchor} {w : World} {ρ : af} {h h' : aL} {nm : Nat}
theorem Pd (H : az env w0 ρ h w) {sz : Nat} {x : SV} {v : Value} {new : List (List SV)} (hx : x.Rel env ρ v) (he : (OM sz x).bx env h new h') :
    h = h' /\ ∃ us, SV.aD env ρ new.flatten us /\ (Builtin.lenOf v).run P w = .ok new.length w /\
     (∀ t ∈ new, t.length = sz) /\ us.all (·.oneCell') = true /\ ∀ w' : World, w'.heap = w.heap -> (Builtin.firstCells sz new.length v).run P w' = .ok us.toArray w' := by
 cases x with
 | cr =>
   simp only [OM, aT] at he; obtain ⟨rfl, rfl⟩ := he; simp only [SV.Rel] at hx; subst hx; exact ⟨rfl, [], rfl, rfl, (fun t ht => by cases ht), rfl, fun w' _ => rfl⟩
 | sl n sz' lo len =>
   simp only [OM, run_bind, aq, aU] at he; obtain ⟨_, _, ⟨hsz, rfl⟩, o, _, ⟨ho, rfl⟩, he⟩ := he; obtain rfl := Nat.eq_of_beq_eq_true hsz; split at he
   ·rename_i T sz'' tail; simp only [run_bind, aq, ae, run_pure] at he; obtain ⟨_, _, ⟨hsz2, rfl⟩, a, _, ⟨ha, rfl⟩, k, _, ⟨hk, rfl⟩, _, _, ⟨hlen, rfl⟩, _, _, ⟨hone, rfl⟩, rfl, rfl⟩ := he; obtain rfl := Nat.eq_of_beq_eq_true hsz2; have hlen := Nat.eq_of_beq_eq_true hlen; have hA := ni (env := env) ha; have hK := ni (env := env) hk; obtain ⟨p, vs, rest, g1, g2, g3, g4, ⟨base, tl, rfl, r1, r2, r3, r4, r5⟩, g6, g7⟩ := H.bk n _ ho; simp only [SV.Rel] at hx; obtain ⟨q, A, hq, rfl, hx2, hx3, hx1, hx4⟩ := hx; obtain rfl : q = p := by rw [g1] at hq; exact (Option.some.inj hq).symm
    have hb0 : base = [] := by apply List.eq_nil_of_length_eq_zero; rw [r1]; simp [E.den, Dv.I]
    subst hb0; simp only [hA, hK, Int.toNat_natCast] at hx1 hx2 hx3; have hm : ∀ t ∈ (tail.drop a).take k, t.length = sz := fun t ht => r4 t (List.mem_of_mem_drop (List.mem_of_mem_take ht)); have htl := r3.length; rw [dw r4] at htl; have hak : a + k <= tail.length \/ k = 0 := by simp at hlen; omega
    have hfl : ((tail.drop a).take k).flatten = (tail.flatten.drop (a * sz)).take (k * sz) := by
     exact flatten_part r4 a k hak
    have hrel := (r3.drop (a * sz)).take (k * sz); rw [<- hfl] at hrel; refine ⟨rfl, _, hrel, ?_, hm, u9 hone hrel, fun w' hw' => ?_⟩
    ·simp only [Builtin.lenOf, Sem.run_pure, hK, Int.toNat_natCast, hlen]
    ·rw [hlen]; cases hAv : A with
     | none => rw [hx2] at hAv; rw [g4] at hAv; cases hAv
     | some ad =>
       simp only [Builtin.firstCells]
       by_cases hk0 : k = 0
       ·subst hk0; simp [loadCells, loadCellsFrom]
       ·have hak' : a + k <= tail.length := by omega
        have hcap : (a + k) * sz <= q.cap * sz := by
         rw [<- g6]; simp only [List.nil_append, List.length_append, htl]; have := Nat.mul_le_mul_right sz hak'; omega
        have hszp : 0 < sz \/ sz = 0 := by omega
        rcases hszp with hszp | hszp
        ·have hac : a < q.cap := by have := Nat.le_of_mul_le_mul_right hcap hszp; omega
         have had := hx3 hac; rw [hAv] at had; injection had with had; subst had
         have := run_loadCells_list (P := P) w' ⟨q.block, q.base + a * sz, none⟩ ((tl.drop (a * sz)).take (k * sz)) (fun j v hv => by
          obtain ⟨hv1, hv2⟩ := dx hv; have hh : w'.heap[q.block]? = some (.cells (([] ++ tl) ++ rest).toArray T (0, 0)) := by rw [hw']; exact g7
          rw [cT, cell_of hh, g3]; obtain ⟨hz1, _⟩ := List.getElem?_eq_some_iff.1 hv1; simp only [List.nil_append, Nat.zero_add, List.getElem?_toArray]; rw [List.getElem?_append_left hz1]
          exact hv1)
         have hl2 : ((tl.drop (a * sz)).take (k * sz)).length = k * sz := by
          simp; rw [htl]; have := Nat.mul_le_mul_right sz hak'; rw [Nat.add_mul] at this; omega
         rw [hl2] at this; exact this
        ·subst hszp; simp [loadCells, loadCellsFrom]
   ·exact he.elim
 | _ => exact he.elim
where
 flatten_part {α : Type} {sz : Nat} : ∀ {l : List (List α)}, (∀ t ∈ l, t.length = sz) -> ∀ a k, (a + k <= l.length \/ k = 0) -> ((l.drop a).take k).flatten = (l.flatten.drop (a * sz)).take (k * sz)
  | [], _, a, k, _ => by simp
  | y :: r, hl, 0, 0, _ => by simp
  | y :: r, hl, 0, k + 1, hk => by
    have hy := hl y (List.mem_cons_self ..); have ih := flatten_part (l := r) (fun t ht => hl t (List.mem_cons_of_mem _ ht)) 0 k (by simp at hk; omega)
    simp only [Nat.zero_mul, List.drop_zero] at ih; simp only [List.drop_zero, List.take_succ_cons, List.flatten_cons, Nat.zero_mul, ih]; rw [Nat.succ_mul, Nat.add_comm (k * sz) sz, <- hy, List.take_length_add_append]
  | y :: r, hl, a + 1, k, hk => by
    have hy := hl y (List.mem_cons_self ..); have ih := flatten_part (l := r) (fun t ht => hl t (List.mem_cons_of_mem _ ht)) a k (by simp at hk; omega)
    rw [List.drop_succ_cons, ih, List.flatten_cons, Nat.succ_mul, Nat.add_comm (a * sz) sz, <- List.drop_drop, <- hy, List.drop_left]
theorem iO {len : E} {tail : List (List SV)} : ((iQ len tail).den env).I = (len.den env).I + tail.length := by
 rw [iQ, jA]; rfl
theorem vL {w : World} {b : Nat} {o : Obj} (h : w.heap[b]? = some o) : w.bd b o = w := pA h
theorem az.trim (H : az env w0 ρ h w) {n : Nat} {T : TypeId} {sz : Nat} {rl len : E} {cols : List ch} (ho : ay h n = some (.row T sz rl cols [])) (h0 : 0 <= (len.den env).I) (hl : (len.den env).I <= (rl.den env).I) :
    az env w0 ρ (bf h n (.row T sz len cols [])) w := by
 obtain ⟨p, vs, rest, g1, g2, g3, g4, hrow, g6, g7⟩ := H.bk n _ ho; obtain ⟨base, tl, rfl, r1, r2, r3, r4, r5⟩ := hrow; have htl : tl = [] := by simpa [SV.aD] using r3
 subst htl; have hle : (len.den env).I.toNat * sz <= base.length := by rw [r1]; exact Nat.mul_le_mul_right _ (by omega)
 have hr : eH env ρ sz len cols [] (base.take ((len.den env).I.toNat * sz)) := by
  refine ⟨_, [], (List.append_nil _).symm, by rw [List.length_take]; omega, fun i hi j bY hj => ?_, r3, r4, r5⟩
  obtain ⟨v, hv, hrel⟩ := r2 i (by omega) j bY hj
  refine ⟨v, ?_, hrel⟩; have hj5 : j < sz := Nat.lt_of_lt_of_le (List.getElem?_eq_some_iff.1 hj).1 r5; rw [List.getElem?_take_of_lt]
  ·exact hv
  ·calc i * sz + j < i * sz + sz := by omega
     _ = (i + 1) * sz := by rw [Nat.succ_mul]
     _ <= (len.den env).I.toNat * sz := Nat.mul_le_mul_right _ hi
 have := H.update (o' := .row T sz len cols []) (b := .cells (base ++ [] ++ rest).toArray T (0, 0)) ho rfl g1 rfl
  ⟨p, base.take ((len.den env).I.toNat * sz), base.drop ((len.den env).I.toNat * sz) ++ rest, g1, g2, g3, g4, hr, by rw [<- List.append_assoc, List.take_append_drop]; simpa using g6, by
   rw [<- List.append_assoc, List.take_append_drop, vL g7]; simpa using g7⟩
 rw [vL g7] at this; exact this
theorem Gp (H : az env w0 ρ h w) {t u : TypeId} {ti : TypeId} {e2 : TypeId} {s x r : SV} {v y : Value} (hs : s.Rel env ρ v) (hx : x.Rel env ρ y) (hu : P.underlying u = some (.slice e2))
    (he : (Bg P nm t s x).bx env h r h') : aF P env w0 ρ nm h' w (Builtin.append_ #[t, u] ti #[v, y]) r := by
 simp only [Bg, run_bind, bF] at he; obtain ⟨d, _, ⟨hd, rfl⟩, he⟩ := he; cases d with
 | slice elem =>
   simp only [run_bind, eR, aq, gP] at he; obtain ⟨i, _, ⟨hi, rfl⟩, _, _, ⟨h0, rfl⟩, _, _, ⟨hby, rfl⟩, _, _, ⟨hsi, rfl⟩, z, _, ⟨⟨iz, zv, hz1, hz2, hz3⟩, rfl⟩, _, _, ⟨hzl, rfl⟩, he⟩ := he; have h0 : 0 < i.size := by simp [Nat.blt] at h0; omega
   have hby := Nat.le_of_ble_eq_true hby; have hzl := Nat.eq_of_beq_eq_true hzl; have hzr : z.Rel env ρ zv := ofVal_ok zv hz3; have hzs : zv.cells.size = i.size := by have := (fL (nf hz3) hzr).length; simp at this; omega
   split at he
   ·rename_i ks e hds
    have hxe : x = .cg ks e := by
     unfold Uc at hds; split at hds
     ·injection hds with hds; injection hds with a b; rw [a, b]
     ·cases hds
    subst hxe; exact EL H hd hi hu h0 hby (qT hz1 hz2) hzs hs hx he
   rw [run_bind] at he; obtain ⟨new, h1, hnew, he⟩ := he; obtain ⟨rfl, us, hus, hlen, hml, husone, hfirst⟩ := Pd (P := P) H hx hnew; have husl : us.length = new.length * i.size := by rw [hus.length, dw hml]
   have hzero : ∀ w', (zeroValue elem).run P w' = .ok zv w' := qT hz1 hz2
   have grow : ∀ (A : Option Addr) (sLen sCap : Nat) (iM : Array Value), v = .slice A sLen sCap -> sCap < sLen + new.length -> sLen + new.length <= 2 * 2147483648 + 1048576 ->
       (∀ w', w'.heap = w.heap -> (Builtin.firstCells i.size sLen v).run P w' = .ok iM w') ->
       ∃ (newCap : Nat) (w1 : World), sLen + new.length <= newCap /\ w1.heap = w.heap /\ w1.os = w.os /\ w1.tape = w.tape /\ w1.output = w.output /\
        (Builtin.append_ #[t, u] ti #[v, y]).run P w = .ok (.slice (some ⟨w.heap.size, 0, none⟩) (sLen + new.length) newCap)
         { w1 with heap := w1.heap.push (.cells (iM ++ us.toArray ++ Builtin.zeroCells zv.cells (newCap - (sLen + new.length))) elem (0, 0)) } := by
    intro A sLen sCap iM hv hcap hbig hold; subst hv; have hnc := wP hcap
    have hle48 : ¬ (Builtin.nextslicecap (sLen + new.length) sCap * i.bytes > 2 ^ 48) := by
     have : Builtin.nextslicecap (sLen + new.length) sCap * i.bytes <= (2 * (2 * 2147483648 + 1048576) + 768) * 4096 := Nat.mul_le_mul (by omega) hby
     have : (2 * (2 * 2147483648 + 1048576) + 768) * 4096 <= 2 ^ 48 := by decide
     omega
    refine ⟨Question.cut (.appendCap (sLen + new.length) sCap elem) (w.tape w.drawn (.appendCap (sLen + new.length) sCap elem)), { w with drawn := w.drawn + 1 }, ?_, rfl, rfl, rfl, rfl, ?_⟩
    ·simp only [Question.cut]; omega
    ·have hneg : ¬ (sLen + new.length <= sCap) := by omega
     simp only [Builtin.append_, List.getElem?_toArray, List.getElem?_cons_zero, List.getElem?_cons_succ, Sem.run_bind, aN hd, cb hi, Result.andThen_ok, aN hu, Sem.run_pure, hlen, Bool.false_eq_true, if_false, if_neg hneg, false_or]; have hmax : IntKind.i64.max = 9223372036854775807 := by decide
     have hneg2 : ¬ (((sLen + new.length : Nat) : Int) > IntKind.i64.max /\ i.bytes = 0) := by rw [hmax]; omega
     have ho := hold { w with drawn := w.drawn + 1 } rfl; have hf := hfirst { w with drawn := w.drawn + 1 } rfl; simp only [qc hi, Result.andThen_ok, if_neg hneg2, Sem.run_bind, if_neg hle48, run_choose, Question.forced, Bool.false_eq_true, if_false, run_askRoom, ho, Bool.not_false, if_true, hf, hzero, newRow, run_newObj, Sem.run_pure]
   have fresh : ∀ (newCap : Nat) (w1 : World) (base tl rest : List Value) (rl : E) (cols : List ch) (tail : List (List SV)) (ρ' : af) (hh : aL), ρ' = ρ -> az env w0 ρ hh w -> w1.heap = w.heap -> w1.os = w.os -> w1.tape = w.tape -> w1.output = w.output ->
       ay hh nm = some .dP -> eH env ρ i.size rl cols tail (base ++ tl) -> (base ++ tl ++ rest).length = newCap * i.size ->
       az env w0 (ρ.set nm ⟨w.heap.size, 0, newCap, false, none⟩) (bf hh nm (.row elem i.size rl cols tail)) { w1 with heap := w1.heap.push (.cells (base ++ tl ++ rest).toArray elem (0, 0)) } /\
        ρ.le (ρ.set nm ⟨w.heap.size, 0, newCap, false, none⟩) := by
    intro newCap w1 base tl rest rl cols tail ρ' hh _ Hh e1 e2 e3 e4 hn hrow hc; have H1 := Hh.drawn (w' := w1) e1 e2 e3 e4; have := sd (T := elem) (rest := rest) (cap := newCap) H1 hn hrow hc; rw [e1] at this ⊢; exact ⟨this.2, this.1⟩
   cases s with
   | gV ks a =>
     cases new with
     | nil =>
       simp only [run_pure] at he; obtain ⟨rfl, rfl⟩ := he; have hs0 := hs; simp only [SV.Rel] at hs; obtain ⟨hs1, A, n, rfl⟩ := hs; have hf := hfirst w rfl; have hus : us = [] := by apply List.eq_nil_of_length_eq_zero; rw [husl]; simp
       rw [hus] at hf; exact aF.same H (uD (ti := ti) hd hi hu hlen hf A n n (Nat.le_refl _)) hs0
     | cons t0 tr => exact he.elim
   | cr =>
     simp only [SV.Rel] at hs; subst hs; cases new with
     | nil =>
       simp only [run_pure] at he; obtain ⟨rfl, rfl⟩ := he; refine aF.same (v := .slice none 0 0) H ?_ rfl; have hf := hfirst w rfl; simp only [List.length_nil] at hf; simp only [Builtin.append_, List.getElem?_toArray, List.getElem?_cons_zero, List.getElem?_cons_succ, Sem.run_bind, aN hd, cb hi, Result.andThen_ok, aN hu, Sem.run_pure, hlen, Bool.false_eq_true, if_false]; simp only [List.length_nil, Nat.add_zero, Nat.le_refl, if_true, Bool.not_false, Sem.run_bind, hf, Result.andThen_ok, Sem.run_pure]
     | cons t0 tr =>
       simp only [run_bind, aq, eB, run_pure] at he; obtain ⟨_, _, ⟨hmany, rfl⟩, _, _, ⟨hn, rfl⟩, rfl, rfl⟩ := he; have hmany : (t0 :: tr).length < 1048576 := by simp only [Nat.blt] at hmany; have := Nat.le_of_ble_eq_true hmany; omega
       obtain ⟨newCap, w1, q1, q2, q3, q4, q5, hrun⟩ := grow none 0 0 #[] rfl (by simp) (by omega) (fun w' _ => rfl)
       simp only [Nat.zero_add] at q1 hrun; have hrow : eH env ρ i.size (.il 0) [] (t0 :: tr) ([] ++ us) := ⟨[], us, rfl, by simp [E.den, Dv.I], fun k hk => by simp [E.den, Dv.I] at hk, hus, hml, by simp⟩
       have hsize : ([] ++ us ++ (Builtin.zeroCells zv.cells (newCap - (t0 :: tr).length)).toList).length = newCap * i.size := by
        simp only [List.nil_append, List.length_append, Array.length_toList, ie, hzs, husl, <- Nat.add_mul]
        congr 1; omega
       obtain ⟨H', hle⟩ := fresh newCap w1 [] us _ (.il 0) [] (t0 :: tr) ρ _ rfl H q2 q3 q4 q5 hn hrow hsize; refine ⟨_, _, _, hrun, hle, dU _, ?_, ⟨_, some ⟨w.heap.size, 0, none⟩, ca _, ?_, ?_, ?_, ?_, Int.le_refl 0⟩⟩
       ·have e : (#[] ++ us.toArray ++ Builtin.zeroCells zv.cells (newCap - (t0 :: tr).length)) = ([] ++ us ++ (Builtin.zeroCells zv.cells (newCap - (t0 :: tr).length)).toList).toArray := by
          apply Array.ext'; simp
        rw [e]; exact H'
       ·simp [E.den, Dv.I]
       ·simp
       ·simp [E.den, Dv.I]
       ·simp only [E.den, Dv.I, Int.toNat_natCast]; simpa using q1
   | sl n sz lo len =>
     split at he
     ·rename_i heq; cases heq
     ·rename_i heq; cases heq
     ·rename_i n' sz' len' heq; injection heq with e1 e2 e3 e4; subst e1; subst e2; subst e3; subst e4; simp only [run_bind, aq, aU] at he; obtain ⟨_, _, ⟨hsz, rfl⟩, o, _, ⟨ho, rfl⟩, he⟩ := he; obtain rfl := Nat.eq_of_beq_eq_true hsz
      have key : ∀ {h : aL} {T : TypeId} {rl : E} {cols : List ch} {tail : List (List SV)}, az env w0 ρ h w -> ay h n = some (.row T i.size rl cols tail) -> ay h nm = some .dP -> (len.den env).I = (rl.den env).I + tail.length -> 0 <= (rl.den env).I ->
          (rl.den env).I + tail.length <= 2147483648 -> new.length < 1048576 -> elem = T ->
          aF P env w0 ρ nm (bf (bf h n .gone) nm (.row T i.size rl cols (tail ++ new))) w (Builtin.append_ #[t, u] ti #[v, y]) (.sl nm i.size (.il 0) (iQ rl (tail ++ new))) := by
       intro h T rl cols tail H ho hnm hv1 hv2 hv3 hmany hTe; subst hTe; have hne : nm ≠ n := fun e => by rw [e, ho] at hnm; cases hnm
       have hn : ay (bf h n .gone) nm = some .dP := by rw [ai, if_neg hne]; exact hnm
       obtain ⟨p, vs, rest, g1, g2, g3, g4, hrow, g6, g7⟩ := H.bk n _ ho; simp only [SV.Rel] at hs; obtain ⟨q, A, hq, rfl, hx2, hx3, hx1, _⟩ := hs; obtain rfl : q = p := by rw [g1] at hq; exact (Option.some.inj hq).symm
       obtain ⟨base, tl, rfl, r1, r2, r3, r4, r5⟩ := hrow; have htl : tl.length = tail.length * i.size := by rw [r3.length, dw r4]
       have hL : (len.den env).I.toNat = (rl.den env).I.toNat + tail.length := by omega
       have hvsl : (base ++ tl).length = (len.den env).I.toNat * i.size := by rw [List.length_append, r1, htl, hL, Nat.add_mul]
       have hLc : (len.den env).I.toNat <= q.cap := by simpa [E.den, Dv.I] using hx1
       obtain ⟨ad, hA⟩ : ∃ ad, A = some ad := by
        cases hAA : A with
        | none => rw [hx2] at hAA; rw [g4] at hAA; cases hAA
        | some ad => exact ⟨ad, rfl⟩
       subst hA
       have hrow' : eH env ρ i.size rl cols (tail ++ new) (base ++ (tl ++ us)) :=
        ⟨base, tl ++ us, rfl, r1, r2, by rw [List.flatten_append]; exact r3.append hus, fun t ht => by
         rcases List.mem_append.1 ht with h | h
         ·exact r4 t h
         ·exact hml t h, r5⟩
       have hcap0 : q.cap - ((E.il 0).den env).I.toNat = q.cap := by simp [E.den, Dv.I]
       rw [hcap0]
       by_cases hfit : (len.den env).I.toNat + new.length <= q.cap
       ·
        have hf := hfirst w rfl
        have hin : (len.den env).I.toNat * i.size + us.length <= (base ++ tl ++ rest).toArray.size := by
         simp only [List.size_toArray, g6, husl, <- Nat.add_mul]; exact Nat.mul_le_mul_right _ hfit
        have hdrop : us.length <= rest.length := by
         have := g6; rw [List.length_append, hvsl] at this; simp only [List.size_toArray, g6] at hin; omega
        have hstore : (storeCells (ad.add ((len.den env).I.toNat * i.size)) us).run P w = .ok () (w.bd q.block (.cells (base ++ (tl ++ us) ++ rest.drop us.length).toArray elem (0, 0))) := by
         by_cases hc0 : q.cap = 0
         ·have hn0 : new.length = 0 := by omega
          have hu0 : us = [] := by apply List.eq_nil_of_length_eq_zero; rw [husl, hn0]; simp
          subst hu0; simp only [storeCells, Sem.run_pure, List.append_nil, List.length_nil, List.drop_zero]; rw [pA g7]
         ·have had := hx3 (by rw [dS]; simp; omega)
          injection had with had; subst had; simp only [g3, cT, dS, Int.toNat_zero, Nat.zero_mul, Nat.zero_add]; have := dE (P := P) (off := (len.den env).I.toNat * i.size) us w (base ++ tl ++ rest).toArray 0 g7 ?_ (by simpa using hin)
          ·rw [this]
           congr 3
           apply Array.ext'; rw [cN _ _ _ (by simpa using hin)]
           simp only [Nat.add_zero]; rw [<- hvsl, List.take_left, List.drop_append, List.drop_of_length_le (by omega), Nat.add_sub_cancel_left]
           simp
          ·exact husone
        have hrun : (Builtin.append_ #[t, u] ti #[.slice (some ad) (len.den env).I.toNat q.cap, y]).run P w =
            .ok (.slice (some ad) ((len.den env).I.toNat + new.length) q.cap) (w.bd q.block (.cells (base ++ (tl ++ us) ++ rest.drop us.length).toArray elem (0, 0))) := by
         simp only [Builtin.append_, List.getElem?_toArray, List.getElem?_cons_zero, List.getElem?_cons_succ, Sem.run_bind, aN hd, cb hi, Result.andThen_ok, aN hu, Sem.run_pure, hlen, Bool.false_eq_true, if_false, if_pos hfit, Bool.not_false, if_true, hf, hstore]
        have hnr : (aA.row elem i.size rl cols (tail ++ new)).Rel env w0 ρ n (w.bd q.block (.cells (base ++ (tl ++ us) ++ rest.drop us.length).toArray elem (0, 0))) :=
         ⟨q, _, rest.drop us.length, hq, g2, g3, g4, hrow', by rw [<- g6]; simp; omega, bq g7⟩
        have H1 := H.update ho rfl hq rfl hnr; have hle := af.mX (H.bk nm .dP hnm) q
        have H2 := H1.move (n := n) (o := .row elem i.size rl cols (tail ++ new)) (by rw [ai, if_pos rfl]) rfl hq (by rw [ai, if_neg hne]; exact hnm)
         (by obtain ⟨q', vs', rest', a1, a2, a3, a4, a5, a6, a7⟩ := hnr
             obtain rfl : q' = q := by rw [hq] at a1; exact (Option.some.inj a1).symm
             exact ⟨q', vs', rest', ca _, a2, a3, a4, a5.mono hle, a6, a7⟩)
        refine ⟨_, _, _, hrun, hle, dU _, H2.ext (fun k => ?_), ⟨q, some ad, ca _, ?_, ?_, ?_, ?_, Int.le_refl 0⟩⟩
        ·simp only [ai]
         by_cases e1 : k = nm <;> by_cases e2 : k = n <;> simp [e1, e2]
        ·rw [iO, dS]
         congr 1
         simp only [List.length_append]; omega
        ·rw [g4]; simp
        ·intro hc; exact hx3 hc
        ·rw [iO, dS]; simp only [List.length_append]; omega
       ·
        have hold : ∀ w' : World, w'.heap = w.heap -> (Builtin.firstCells i.size (len.den env).I.toNat (.slice (some ad) (len.den env).I.toNat q.cap)).run P w' = .ok (base ++ tl).toArray w' := by
         intro w' hw'; simp only [Builtin.firstCells]
         by_cases hc0 : q.cap = 0
         ·have hl0 : (len.den env).I.toNat = 0 := by omega
          have hb0 : base ++ tl = [] := by apply List.eq_nil_of_length_eq_zero; rw [hvsl, hl0]; simp
          rw [hl0, hb0]; simp [loadCells, loadCellsFrom]
         ·have had := hx3 (by rw [dS]; simp; omega)
          injection had with had; subst had
          have := run_loadCells_list (P := P) w' ⟨q.block, q.base + ((E.il 0).den env).I.toNat * i.size, none⟩ (base ++ tl) (fun j v hv => by
           have hh : w'.heap[q.block]? = some (.cells (base ++ tl ++ rest).toArray elem (0, 0)) := by rw [hw']; exact g7
           rw [cT, cell_of hh, g3, dS]; obtain ⟨hz1, _⟩ := List.getElem?_eq_some_iff.1 hv; simp only [Int.toNat_zero, Nat.zero_mul, Nat.zero_add, List.getElem?_toArray]; rw [List.getElem?_append_left hz1]
           exact hv)
          rw [hvsl] at this; exact this
        rw [hcap0] at grow; obtain ⟨newCap, w1, q1, q2, q3, q4, q5, hrun⟩ := grow (some ad) _ q.cap _ rfl (by omega) (by omega) hold
        have hsize : (base ++ (tl ++ us) ++ (Builtin.zeroCells zv.cells (newCap - ((len.den env).I.toNat + new.length))).toList).length = newCap * i.size := by
         have e0 : (base ++ (tl ++ us)).length = (len.den env).I.toNat * i.size + new.length * i.size := by rw [<- List.append_assoc, List.length_append, hvsl, husl]
         rw [List.length_append, e0]; simp only [Array.length_toList, ie, hzs, <- Nat.add_mul]
         congr 1; omega
        have Hg := H.Au ho; obtain ⟨H', hle⟩ := fresh newCap w1 base (tl ++ us) _ rl cols (tail ++ new) ρ _ rfl Hg q2 q3 q4 q5 hn hrow' hsize; refine ⟨_, _, _, hrun, hle, dU _, ?_, ⟨_, some ⟨w.heap.size, 0, none⟩, ca _, ?_, ?_, ?_, ?_, Int.le_refl 0⟩⟩
        ·have e : ((base ++ tl).toArray ++ us.toArray ++ Builtin.zeroCells zv.cells (newCap - ((len.den env).I.toNat + new.length))) =
             (base ++ (tl ++ us) ++ (Builtin.zeroCells zv.cells (newCap - ((len.den env).I.toNat + new.length))).toList).toArray := by
           apply Array.ext'; simp
         rw [e]; exact H'
        ·rw [iO, dS]
         congr 1
         simp only [List.length_append]; omega
        ·simp
        ·intro _; rw [dS]; simp
        ·rw [iO, dS]; simp only [List.length_append]; omega
      cases o with
      | row T sz' rl cols tail =>
        simp only [run_bind, aq] at he; obtain ⟨_, _, ⟨hsz2, rfl⟩, _, _, ⟨hT, rfl⟩, he⟩ := he; obtain rfl := Nat.eq_of_beq_eq_true hsz2; obtain rfl := Nat.eq_of_beq_eq_true hT; cases tail with
        | nil =>
          simp only [run_bind, aq, bU, bD, eB, run_pure] at he; obtain ⟨_, _, ⟨hv0, rfl⟩, _, _, ⟨hv1, rfl⟩, _, _, ⟨hv2, rfl⟩, _, _, ⟨hmany, rfl⟩, _, _, rfl, _, _, ⟨hn, rfl⟩, rfl, rfl⟩ := he; have hmany : new.length < 1048576 := by simp only [Nat.blt] at hmany; have := Nat.le_of_ble_eq_true hmany; omega
          rw [cq, dS] at hv0; rw [cq, dS] at hv2
          have hv1 : (len.den env).I <= (rl.den env).I := by
           unfold leS at hv1; cases hs : len.same rl with
           | true => rw [E.ax hs]; exact Int.le_refl _
           | false => rw [hs, cond_false, cq] at hv1; exact hv1
          have hne : nm ≠ n := fun e => by
           subst e; rw [ai, if_pos rfl] at hn; cases hn
          have hnm : ay h nm = some .dP := by rw [ai, if_neg hne] at hn; exact hn
          have Ht := H.trim (len := len) ho hv0 hv1; have := key Ht (by rw [ai, if_pos rfl]) (by rw [ai, if_neg hne]; exact hnm) (by simp) hv0 (by simpa using hv2) hmany rfl
          rw [List.nil_append] at this
          have e0 : bf (bf (bf h n (.row T i.size len cols [])) n .gone) nm (.row T i.size len cols new) = bf (bf h n .gone) nm (.row T i.size len cols new) := by
           funext k
           simp only [bf]
           by_cases e1 : k = nm
           ·simp [e1]
           ·by_cases e2 : k = n <;> simp [e1, e2]
          rw [e0] at this; exact this
        | cons t0 tr =>
          simp only [run_bind, aq, bU, bD, eB, run_pure] at he; obtain ⟨_, _, ⟨hv1, rfl⟩, _, _, ⟨hv2, rfl⟩, _, _, ⟨hv3, rfl⟩, _, _, ⟨hmany, rfl⟩, _, _, rfl, _, _, ⟨hn, rfl⟩, rfl, rfl⟩ := he; have hmany : new.length < 1048576 := by simp only [Nat.blt] at hmany; have := Nat.le_of_ble_eq_true hmany; omega
          rw [bn] at hv1
          have hv1 : (len.den env).I = (rl.den env).I + (t0 :: tr).length := by
           rw [<- iO]; simpa [E.den, O2.den, Dv.B] using hv1
          rw [cq, dS] at hv2; rw [cq, dS, iO] at hv3
          have hne : nm ≠ n := fun e => by
           subst e; rw [ai, if_pos rfl] at hn; cases hn
          have hnm : ay h nm = some .dP := by rw [ai, if_neg hne] at hn; exact hn
          exact key H ho hnm hv1 hv2 hv3 hmany rfl
      | _ => exact he.elim
     ·exact he.elim
   | _ => exact he.elim
 | _ => exact he.elim
end
section
variable {P : Program} {env : Env} {w0 : Anchor} {w : World} {ρ : af} {h h' : aL} {nm : Nat}
theorem Ax {k : IntKind} {n : Int} (h1 : xz k <= n) (h2 : n <= vN k) : k.wrap n = n := by
 cases k <;> simp [IntKind.wrap, IntKind.signed, IntKind.bits, xz, vN] at * <;> omega
theorem vw {k : IntKind} {e : E} {r : SV} (he : (arith k e).bx env h r h') : h = h' /\ r.Rel env ρ (.int k (k.wrap (e.den env).I)) := by
 unfold arith at he; split at he
 ·simp only [aT] at he; obtain ⟨rfl, rfl⟩ := he; exact ⟨rfl, rfl⟩
 ·simp only [run_bind, bU, cq, dS, run_pure] at he; obtain ⟨_, _, ⟨h1, rfl⟩, _, _, ⟨h2, rfl⟩, rfl, rfl⟩ := he; refine ⟨rfl, ?_⟩; simp only [SV.Rel]; rw [Ax h1 h2]
theorem Ii (z : Int) : (Dv.i z).I = z := rfl
theorem Bb (x : Bool) : (Dv.b x).B = x := rfl
theorem Ss (x : ByteArray) : (Dv.s x).S = x := rfl
theorem tG : ∀ (a b : List UInt8), (!(Op.bytesLess a b || a == b)) = Op.bytesLess b a
 | [], [] => by simp [Op.bytesLess]
 | [], _ :: _ => by simp [Op.bytesLess]
 | _ :: _, [] => by simp [Op.bytesLess]
 | x :: a, y :: b => by
   have ih := tG a b; simp only [Op.bytesLess]
   by_cases h1 : x < y
   ·have h2 : ¬ y < x := fun h => by simp only [UInt8.lt_iff_toNat_lt] at *; omega
    have h3 : (y == x) = false := by rw [beq_eq_false_iff_ne]; intro e; subst e; simp only [UInt8.lt_iff_toNat_lt] at h1; omega
    simp [h1, h2, h3]
   ·by_cases h2 : y < x
    ·have h3 : (x == y) = false := by rw [beq_eq_false_iff_ne]; intro e; subst e; simp only [UInt8.lt_iff_toNat_lt] at h2; omega
     have h4 : ((x :: a) == (y :: b)) = false := by rw [beq_eq_false_iff_ne] at h3 ⊢; intro e; injection e with e1 e2; exact h3 e1
     simp only [h1, h2, h3, h4, decide_true, decide_false, Bool.false_and, Bool.or_false, Bool.not_false, Bool.true_or]
    ·have e : x = y := by
       have h1' : ¬ x.toNat < y.toNat := fun h => h1 (UInt8.lt_iff_toNat_lt.2 h); have h2' : ¬ y.toNat < x.toNat := fun h => h2 (UInt8.lt_iff_toNat_lt.2 h); exact UInt8.toNat_inj.1 (by omega)
     subst e; have h4 : ((x :: a) == (x :: b)) = (a == b) := by simp
     simp only [h1, h4, decide_false, Bool.false_or, beq_self_eq_true, Bool.true_and, ih]
theorem ij {e : E} : ((lS e).den env).B = !(e.den env).B := by rw [lS, bA]; rfl
theorem bytes_beq (a b : ByteArray) : (a == b) = (a.toList == b.toList) := by
 show (a.data == b.data) = _; apply Bool.eq_iff_iff.2; rw [ByteArray.toList_eq, ByteArray.toList_eq, beq_iff_eq, beq_iff_eq]; exact ⟨fun e => by rw [e], fun e => Array.toList_inj.1 e⟩
theorem DU {t : TypeId} {cs : List SV} {vs : List Value} {off : Nat} {r : SV} {h h' : aL} (hcs : SV.aD env ρ cs vs) (he : (HU P t cs off).bx env h r h') : h = h' /\ ∃ v, (part t vs.toArray off).run P w = .ok v w /\ r.Rel env ρ v := by
 simp only [HU, run_bind, bF, eR] at he; obtain ⟨d, _, ⟨hd, rfl⟩, i, _, ⟨hi, rfl⟩, he⟩ := he; cases ha : jz d with
 | true =>
   rw [ha] at he; simp only [run_bind, iK, run_pure] at he; obtain ⟨l, _, ⟨rfl, hlen, rfl⟩, rfl, rfl⟩ := he; refine ⟨rfl, .agg ((vs.drop off).take i.size).toArray, ?_, _, rfl, (hcs.drop off).take i.size⟩; simp [part, iY hd, ha, cb hi, List.extract_eq_take_drop]
 | false =>
   rw [ha] at he; simp only [ae] at he; obtain ⟨hx, rfl⟩ := he; obtain ⟨v, hv, hr⟩ := hcs.get hx; exact ⟨rfl, v, by simp [part, iY hd, ha, hv], hr⟩
theorem YJ {a b : E} : ((Up a b).den env).B = ((a.den env).B && (b.den env).B) := by
 unfold Up; split
 ·show _ = (true && _); simp
 ·show _ = (_ && true); simp
 ·rw [bn]; rfl
theorem VL {a b : E} : ((VP a b).den env).B = ((a.den env).B == (b.den env).B) := by
 unfold VP; split
 ·show _ = (true == _); simp
 ·show _ = (_ == true); simp
 ·rw [ij]; show _ = (false == _); simp
 ·rw [ij]; show _ = (_ == false); simp
 ·rw [bn]; rfl
theorem GV {d : Nat} {rc : TypeId -> SV -> SV -> Prog E} (hrc : ∀ {t : TypeId} {x y : SV} {v u : Value} {e : E} {h h' : aL}, x.Rel env ρ v -> y.Rel env ρ u -> (rc t x y).bx env h e h' -> h = h' /\ (Op.equalIn d t v u).run P w = .ok (e.den env).B w)
    {xs ys : List SV} {us vs : List Value} (hx : SV.aD env ρ xs us) (hy : SV.aD env ρ ys vs) : ∀ {fs : List Field} {e : E} {h h' : aL}, (LI P rc xs ys fs).bx env h e h' ->
    h = h' /\ (Op.eqFields d us.toArray vs.toArray fs).run P w = .ok (e.den env).B w
 | [], e, h, h', he => by
   simp only [LI, aT] at he; obtain ⟨rfl, rfl⟩ := he; exact ⟨rfl, rfl⟩
 | f :: r, e, h, h', he => by
   simp only [LI, run_bind, aq, run_pure] at he; obtain ⟨_, _, ⟨hn, rfl⟩, a, _, ha, b, _, hb, e1, _, h1, e2, _, h2, rfl, rfl⟩ := he; obtain ⟨rfl, va, ha1, ha2⟩ := DU (w := w) hx ha; obtain ⟨rfl, vb, hb1, hb2⟩ := DU (w := w) hy hb; obtain ⟨rfl, g1⟩ := hrc ha2 hb2 h1; obtain ⟨rfl, g2⟩ := GV hrc hx hy h2; refine ⟨rfl, ?_⟩; have hn : f.name ≠ "_" := by simpa using hn
   simp only [Op.eqFields, if_pos hn, Sem.run_bind, ha1, hb1, g1, Result.andThen_ok, YJ]; cases (e1.den env).B
   ·rfl
   ·simpa using g2
set_option maxHeartbeats 1000000 in
theorem FZ : ∀ {d : Nat} {t : TypeId} {x y : SV} {v u : Value} {e : E} {h h' : aL}, x.Rel env ρ v -> y.Rel env ρ u -> (eqS P d t x y).bx env h e h' ->
    h = h' /\ (Op.equalIn d t v u).run P w = .ok (e.den env).B w
 | 0, _, _, _, _, _, _, _, _, _, _, he => he.elim
 | d + 1, t, x, y, v, u, e, h, h', hx, hy, he => by
   simp only [eqS, run_bind, bF] at he; obtain ⟨ty, _, ⟨hd, rfl⟩, he⟩ := he; split at he
   case h_1 =>
    simp only [SV.Rel] at hx hy; subst hx; subst hy; simp only [run_pure] at he; obtain ⟨rfl, rfl⟩ := he; refine ⟨rfl, ?_⟩; rw [VL]; simp only [Op.equalIn, Sem.run_bind, aN hd, Result.andThen_ok, Sem.run_pure]
   case h_3 =>
    simp only [SV.Rel] at hx hy; subst hx; subst hy; simp only [run_pure] at he; obtain ⟨rfl, rfl⟩ := he; refine ⟨rfl, ?_⟩; rw [bn]; simp only [Op.equalIn, Sem.run_bind, aN hd, Result.andThen_ok, Sem.run_pure, bytes_beq]; rfl
   case h_2 =>
    simp only [SV.Rel] at hx hy; subst hx; subst hy; simp only [run_bind, aq, run_pure] at he; obtain ⟨_, _, ⟨hk, rfl⟩, rfl, rfl⟩ := he; obtain rfl := gA hk; refine ⟨rfl, ?_⟩; rw [bn]; simp [Op.equalIn, aN hd, E.den, O2.den, Bb]
   case h_23 =>
    simp only [SV.Rel] at hx hy; obtain ⟨us, rfl, hus⟩ := hx; obtain ⟨vs, rfl, hvs⟩ := hy; simp only [run_bind, aq] at he; obtain ⟨_, _, ⟨hs, rfl⟩, he⟩ := he; have hs : P.stoodInHeld t = false := by simpa using hs
    rename_i fs _ _ _ _; have hf : P.fieldsOf t = fs := by simp [Program.fieldsOf, hd]
    rw [run_equalIn_struct w d t _ _ (by rw [hf]; exact hd) hs, hf]
    exact GV (fun hx hy he => FZ hx hy he) hus hvs he
   all_goals first
    | exact he.elim
    | (simp only [run_pure] at he
       obtain ⟨rfl, rfl⟩ := he; refine ⟨rfl, ?_⟩; simp only [SV.Rel] at hx hy
       first
        | (subst hx; subst hy; first | (rw [bn]; simp [Op.equalIn, aN hd, E.den, O2.den, Bb, bytes_beq]; done) | (simp [Op.equalIn, aN hd, E.den, O2.den, Bb]; done))
        | (subst hx; rcases hy with ⟨h0, rfl⟩ | ⟨h0, _, _, rfl⟩ <;> rw [KH, dS] <;> first | (rw [decide_eq_true h0]; simp [Op.equalIn, aN hd]; done) | (rw [decide_eq_false (by omega)]; simp [Op.equalIn, aN hd]; done))
        | (subst hy; rcases hx with ⟨h0, rfl⟩ | ⟨h0, _, _, rfl⟩ <;> rw [KH, dS] <;> first | (rw [decide_eq_true h0]; simp [Op.equalIn, aN hd]; done) | (rw [decide_eq_false (by omega)]; simp [Op.equalIn, aN hd]; done))
        | (subst hx; obtain ⟨_, _, rfl⟩ := hy; simp [Op.equalIn, aN hd, E.den, Bb]; done)
        | (subst hy; obtain ⟨_, _, rfl⟩ := hx; simp [Op.equalIn, aN hd, E.den, Bb]; done)
        | (subst hx; obtain ⟨_, rfl, _⟩ := hy; simp [Op.equalIn, aN hd, E.den, Bb]; done)
        | (subst hy; obtain ⟨_, rfl, _⟩ := hx; simp [Op.equalIn, aN hd, E.den, Bb]; done)
        | (subst hx; obtain ⟨_, rfl⟩ := hy; simp [Op.equalIn, aN hd, E.den, Bb]; done)
        | (subst hy; obtain ⟨_, rfl⟩ := hx; simp [Op.equalIn, aN hd, E.den, Bb]; done)
        | (subst hx; obtain ⟨_, _, rfl, _⟩ := hy; simp [Op.equalIn, aN hd, E.den, Bb]; done)
        | (subst hy; obtain ⟨_, _, rfl, _⟩ := hx; simp [Op.equalIn, aN hd, E.den, Bb]; done))
theorem Ir {b : E} (hz : (!((E.o2 .aX b (.il 0)).den env).B) = true) : ¬ ((b.den env).I = 0) := by
 intro h0
 have : ((E.o2 .aX b (.il 0)).den env).B = true := by
  show ((b.den env).I == (0 : Int)) = true; rw [h0]; rfl
 rw [this] at hz; cases hz
theorem wI {x : SV} {v u : Value} {t : TypeId} (hh : AE x = true) (hx : x.Rel env ρ v) :
    binOp .eql t v u = (do pure (.bool (<- Op.equal t v u))) /\ binOp .neq t v u = (do pure (.bool (!(<- Op.equal t v u)))) := by
 cases x <;> simp only [AE] at hh <;> simp only [SV.Rel] at hx <;> try (cases hh; done)
 all_goals first
  | (subst hx; exact ⟨rfl, rfl⟩)
  | (rcases hx with ⟨_, rfl⟩ | ⟨_, _, _, rfl⟩ <;> exact ⟨rfl, rfl⟩)
  | (obtain ⟨_, _, _, rfl, _⟩ := hx; exact ⟨rfl, rfl⟩)
  | (obtain ⟨_, _, rfl, _⟩ := hx; exact ⟨rfl, rfl⟩)
  | (obtain ⟨_, _, rfl⟩ := hx; exact ⟨rfl, rfl⟩)
  | (obtain ⟨_, rfl, _⟩ := hx; exact ⟨rfl, rfl⟩)
  | (obtain ⟨_, rfl⟩ := hx; exact ⟨rfl, rfl⟩)
theorem zP {c : Nat} {x : Int} (hk : Wv c x = true) : ∃ r, FloatKind.f64.format.mul c (FloatKind.f64.nearest x) = some r /\
    (FloatKind.f64.decode r).toInt .zero = some (wB c x) /\ IntKind.i64.min <= wB c x /\ wB c x <= IntKind.i64.max := by
 unfold Wv at hk; split at hk
 ·rename_i n hn; have hv : wB c x = n := by unfold wB; rw [hn]; rfl
  rw [hv]; unfold MR at hn; split at hn
  ·rename_i r hr; exact ⟨r, hr, hn, (of_decide_eq_true hk).1, (of_decide_eq_true hk).2⟩
  ·cases hn
 ·cases hk
theorem Qs {t : TypeId} {k : IntKind} {a b : Int} (hne : ¬ (b = 0)) : (binOp .rem t (.int k a) (.int k b)).run P w = .ok (.int k (a.tmod b)) w := by
 simp only [binOp, Op.intDiv, if_neg hne, ne_eq, not_true_eq_false, if_false, Sem.run_pure]
set_option maxHeartbeats 1000000 in
theorem PT (H : az env w0 ρ h w) {op : BinOp} {t : TypeId} {x y r : SV} {v u : Value} (hx : x.Rel env ρ v) (hy : y.Rel env ρ u) (he : (Uy P op t x y).bx env h r h') :
    aF P env w0 ρ nm h' w (binOp op t v u) r := by
 have arr : ∀ {k : IntKind} {e : E} {n : Int}, (arith k e).bx env h r h' -> (e.den env).I = n -> (binOp op t v u).run P w = .ok (.int k (k.wrap n)) w -> aF P env w0 ρ nm h' w (binOp op t v u) r := by
  intro k e n h1 h2 h3; obtain ⟨rfl, hr⟩ := vw (ρ := ρ) h1; rw [h2] at hr; exact aF.same H h3 hr
 have cmp : ∀ {e : E}, r = .bool e -> h = h' -> (binOp op t v u).run P w = .ok (.bool (e.den env).B) w -> aF P env w0 ρ nm h' w (binOp op t v u) r := by
  intro e h1 h2 h3; subst h1; subst h2; exact aF.same H h3 rfl
 unfold Uy at he; split at he
 case h_2 =>
  rename_i k a yk n; simp only [SV.Rel] at hx hy; subst hx; subst hy; simp only [run_bind, aq, bU, cq, dS, run_pure] at he; obtain ⟨_, _, ⟨hk, rfl⟩, _, _, ⟨h0, rfl⟩, rfl, rfl⟩ := he; have hn := Nat.le_of_ble_eq_true hk; obtain ⟨A, hA⟩ : ∃ A : Nat, (a.den env).I = (A : Int) := ⟨(a.den env).I.toNat, by omega⟩
  refine aF.same H (v := .int k ((a.den env).I.tdiv ((2 ^ n : Nat) : Int))) ?_ (by simp only [SV.Rel, bn, E.den, O2.den, Ii])
  have hb : min n k.bits = n := by cases k <;> simp [IntKind.bits] <;> omega
  have hnn : ¬ (((E.il (Int.ofNat n)).den env).I < 0) := by show ¬ (Int.ofNat n < 0); simp
  have hd : (a.den env).I.fdiv (2 ^ n) = (a.den env).I.tdiv ((2 ^ n : Nat) : Int) := by
   rw [hA, Int.fdiv_eq_tdiv_of_nonneg (by omega) (Int.le_of_lt (Int.pow_pos (by decide)))]
   simp
  have hy : ((E.il (Int.ofNat n)).den env).I = (n : Int) := rfl; rw [hy]; simp only [binOp, Op.shift, if_neg (show ¬ ((n : Int) < 0) by omega), Int.toNat_natCast, hb, hd, Sem.run_pure]
 case h_3 =>
  simp only [SV.Rel] at hx hy; subst hx; subst hy; simp only [run_bind, aq] at he; obtain ⟨_, _, ⟨hk, rfl⟩, he⟩ := he; obtain rfl := gA hk; exact arr he (by rw [bn]) (by simp [binOp, Op.intArith, E.den, O2.den, Ii])
 case h_4 =>
  simp only [SV.Rel] at hx hy; subst hx; subst hy; simp only [run_bind, aq] at he; obtain ⟨_, _, ⟨hk, rfl⟩, he⟩ := he; obtain rfl := gA hk; exact arr he (by rw [bn]) (by simp [binOp, Op.intArith, E.den, O2.den, Ii])
 case h_5 =>
  simp only [SV.Rel] at hx hy; subst hx; subst hy; simp only [run_bind, aq] at he; obtain ⟨_, _, ⟨hk, rfl⟩, he⟩ := he; obtain rfl := gA hk; exact arr he (by rw [bn]) (by simp [binOp, Op.intArith, E.den, O2.den, Ii])
 case h_6 =>
  simp only [SV.Rel] at hx hy; subst hx; subst hy; simp only [run_bind, aq, bU, ij, bn] at he; obtain ⟨_, _, ⟨hk, rfl⟩, _, _, ⟨hz, rfl⟩, he⟩ := he; obtain rfl := gA hk; refine arr he (by rw [bn]) ?_
  have hne := Ir hz; simp only [binOp, Op.intDiv, if_neg hne, ne_eq, not_true_eq_false, if_false, Sem.run_pure, E.den, O2.den, Ii]
 case h_7 =>
  simp only [SV.Rel] at hx hy; subst hx; subst hy; simp only [run_bind, aq, bU, ij, bn, run_pure] at he; obtain ⟨_, _, ⟨hk, rfl⟩, _, _, ⟨hz, rfl⟩, rfl, rfl⟩ := he; obtain rfl := gA hk; have hne := Ir hz; exact aF.same H (Qs hne) (by simp only [SV.Rel, bn]; rfl)
 case h_25 =>
  simp only [SV.Rel] at hx hy; subst hx; subst hy; simp only [run_pure] at he; obtain ⟨rfl, rfl⟩ := he; rename_i a b
  have htri : (Op.bytesLess (a.den env).S.toList (b.den env).S.toList || (a.den env).S.toList == (b.den env).S.toList) = !Op.bytesLess (b.den env).S.toList (a.den env).S.toList := by
   rw [<- tG (a.den env).S.toList (b.den env).S.toList, Bool.not_not]
  exact cmp rfl rfl (by simp only [binOp, Op.stringOp, htri, ij, bn, E.den, O2.den, Bb, cA, Sem.run_pure])
 all_goals first
  | exact he.elim
  | skip
 all_goals first
  | (
     simp only [SV.Rel] at hx hy; subst hx; subst hy; simp only [run_bind, aq, run_pure] at he; obtain ⟨_, _, ⟨hk, rfl⟩, rfl, rfl⟩ := he; obtain rfl := gA hk
     exact cmp rfl rfl (by simp [binOp, Op.intCmp, ij, bn, E.den, O2.den, Bb, bne]; done))
  | (
     simp only [SV.Rel] at hx hy; subst hx; subst hy; simp only [run_pure] at he; obtain ⟨rfl, rfl⟩ := he
     exact cmp rfl rfl (by simp only [binOp, Op.stringOp, tG, ij, bn, E.den, O2.den, Bb, cA, Sem.run_pure]; done))
  | skip
 case h_14 =>
  simp only [SV.Rel] at hx hy; subst hx; subst hy; simp only [run_bind, bU, run_pure] at he; obtain ⟨_, _, ⟨hk, rfl⟩, rfl, rfl⟩ := he; obtain ⟨r, h1, _⟩ := zP hk; refine aF.same H (v := .float .f64 r) ?_ ?_
  ·simp only [binOp, Op.floatArith, FE.den, ne_eq, not_true_eq_false, if_false, Sem.run_bind, Sem.run_pure, Result.andThen_ok, h1]
  ·simp only [SV.Rel, FE.den, h1, Option.getD_some]
 case h_15 =>
  simp only [SV.Rel] at hx hy; subst hx; subst hy; simp only [run_bind, bU, cq, dS, run_pure, bn, bA] at he; obtain ⟨_, _, ⟨hk, rfl⟩, rfl, rfl⟩ := he; simp only [E.den, O2.den, O1.den, Ii, bA] at hk; refine aF.same H (v := .string _) ?_ (by simp only [SV.Rel, bn, E.den, O2.den, Ss]; rfl)
  have hmax : IntKind.i64.max = 9223372036854775807 := by decide
  simp only [binOp, Op.stringOp, hmax]; rw [if_neg (by omega)]
  rfl
 case h_22 =>
  simp only [run_bind, aq, run_pure] at he; obtain ⟨_, _, ⟨hh, rfl⟩, e, _, he, rfl, rfl⟩ := he; obtain ⟨rfl, h1⟩ := FZ (P := P) (w := w) hx hy he; refine cmp rfl rfl ?_; rw [(wI hh hx).1]; simp only [Sem.run_bind, Op.equal, Op.maxDepth, h1, Result.andThen_ok, Sem.run_pure]
 case h_23 =>
  simp only [run_bind, aq, run_pure] at he; obtain ⟨_, _, ⟨hh, rfl⟩, e, _, he, rfl, rfl⟩ := he; obtain ⟨rfl, h1⟩ := FZ (P := P) (w := w) hx hy he; refine cmp rfl rfl ?_; rw [(wI hh hx).2]; simp only [Sem.run_bind, Op.equal, Op.maxDepth, h1, Result.andThen_ok, Sem.run_pure, ij]
end
section
variable {P : Program} {env : Env} {w0 : Anchor} {w : World} {ρ : af} {h h' : aL} {nm : Nat}
theorem Xx (H : az env w0 ρ h w) {op : UnOp} {x r : SV} {v : Value} (hx : x.Rel env ρ v) (he : (unS op x).bx env h r h') :
    aF P env w0 ρ nm h' w (Op.unary op v) r := by
 unfold unS at he; split at he
 ·simp only [SV.Rel] at hx; subst hx; obtain ⟨rfl, hr⟩ := vw (ρ := ρ) he; rw [bn] at hr; exact aF.same H (by simp [Op.unary, Op.intArith, E.den, O2.den, Ii]) hr
 ·simp only [SV.Rel] at hx; subst hx; simp only [run_pure] at he; obtain ⟨rfl, rfl⟩ := he; exact aF.same H (v := .bool _) rfl (by simp only [SV.Rel, ij])
 ·exact he.elim
theorem Me (H : az env w0 ρ h w) {src dst : TypeId} {x r : SV} {v : Value} (hx : x.Rel env ρ v) (he : (Ns P src dst x).bx env h r h') :
    aF P env w0 ρ nm h' w (convert src dst v) r := by
 simp only [Ns, run_bind, bF] at he; obtain ⟨s, _, ⟨hs, rfl⟩, d, _, ⟨hd, rfl⟩, he⟩ := he; split at he
 ·simp only [SV.Rel] at hx; subst hx; obtain ⟨rfl, hr⟩ := vw (ρ := ρ) he; exact aF.same H (by simp [convert, aN hs, aN hd, Conv.intToInt]) hr
 ·simp only [SV.Rel] at hx; subst hx; simp only [run_pure] at he; obtain ⟨rfl, rfl⟩ := he; exact aF.same H (by simp only [convert, Sem.run_bind, aN hs, aN hd, Result.andThen_ok, Conv.intToFloat, Sem.run_pure]) (show SV.Rel env ρ (.BZ (.TY _)) (.float .f64 (FloatKind.f64.nearest _)) from rfl)
 ·rename_i c e; simp only [SV.Rel] at hx; subst hx; simp only [run_bind, bU, run_pure] at he; obtain ⟨_, _, ⟨hk, rfl⟩, rfl, rfl⟩ := he; obtain ⟨q, h1, h2, h3, h4⟩ := zP hk; refine aF.same H (v := .int .i64 (wB c (e.den env).I)) ?_ rfl; simp only [convert, Sem.run_bind, aN hs, aN hd, Result.andThen_ok, Conv.floatToInt, FE.den, h1, Option.getD_some, h2, if_pos (And.intro h3 h4), Sem.run_pure]
 ·simp only [SV.Rel] at hx; subst hx; simp only [run_pure] at he; obtain ⟨rfl, rfl⟩ := he; exact aF.same H (v := .string _) (by simp only [convert, Sem.run_bind, aN hs, aN hd, Result.andThen_ok, Sem.run_pure]) rfl
 ·rename_i e n sz; simp only [run_bind, bF] at he; obtain ⟨u, _, ⟨hu, rfl⟩, he⟩ := he; split at he
  ·simp only [run_bind, aU] at he; obtain ⟨o, _, ⟨ho, rfl⟩, he⟩ := he; split at he
   ·rename_i T c; simp only [run_pure] at he; obtain ⟨rfl, rfl⟩ := he; obtain ⟨q, vs, rest, h1, h2, h3, h4, ⟨base, tl, rfl, hb1, hb2, hb3, hb4, hb5⟩, h6, h7⟩ := H.bk n _ ho; simp only [SV.Rel] at hx; obtain ⟨p, A, hp, rfl, _, hA, hle, _⟩ := hx; rw [hp] at h1; injection h1 with h1; subst h1; have e0 : base = [] := List.length_eq_zero_iff.1 (by rw [hb1]; rfl)
    subst e0; have hfl : ([[SV.int .u8 c]] : List (List SV)).flatten = [.int .u8 c] := rfl; rw [hfl] at hb3; simp only [SV.aD] at hb3; obtain ⟨v, r, rfl, hv, rfl⟩ := hb3; have hv : v = .int .u8 (c.den env).I := hv; subst hv
    have hcap : 0 < p.cap := by
     have e1 : ((E.il 1).den env).I.toNat = 1 := rfl; have e2 : ((E.il 0).den env).I.toNat = 0 := rfl; rw [e1, e2] at hle; omega
    have hA := hA hcap; have e2 : ((E.il 0).den env).I.toNat = 0 := rfl; rw [e2, Nat.zero_mul, h3] at hA; subst hA; refine aF.same H (v := .string (ByteArray.empty.push (UInt8.ofNat (c.den env).I.toNat))) ?_ (by simp only [SV.Rel, E.den, O1.den, Ss])
    have hload := run_loadCells_list (P := P) w ⟨p.block, 0 + 0, none⟩ [.int .u8 (c.den env).I] (fun j v hj => by
     cases j with
     | zero =>
       simp only [List.getElem?_cons_zero, Option.some.injEq] at hj; subst hj; rw [cT, cell_of h7]; rfl
     | succ j => simp at hj)
    have e3 : ((E.il 1).den env).I.toNat = 1 := rfl; rw [e3]; simp only [convert, Sem.run_bind, aN hs, aN hd, Result.andThen_ok, aN hu, Conv.bytesToString]; have hload : (loadCells ⟨p.block, 0 + 0, none⟩ 1).run P w = .ok [Value.int .u8 (c.den env).I].toArray w := hload; rw [hload]; simp
   ·exact he.elim
  ·exact he.elim
 ·exact he.elim
theorem MM {b : Nat} {c : Array Value} {T : TypeId} {fz : Nat × Nat} (hb : w.heap[b]? = some (.cells c T fz)) : w.shape? b = some (T, c.size) := by
 simp [World.shape?, hb]
theorem m3 {b o : Nat} {c : Array Value} {T : TypeId} {fz : Nat × Nat} (hb : w.heap[b]? = some (.cells c T fz)) (h0 : 0 < P.cellsOf T)
    (hs : (byteOfCell P P.depth T (o % P.cellsOf T)).isSome = true) : ∃ n, (byteOf ⟨b, o, none⟩).run P w = .ok n w := by
 obtain ⟨q, hq⟩ := Option.isSome_iff_exists.1 hs; refine ⟨o / P.cellsOf T * P.bytesOf T + q, ?_⟩; have hne : ¬ (P.cellsOf T = 0) := by omega
 simp only [byteOf, noView, viewAt, Sem.run_bind, run_program, run_shape, MM hb, Result.andThen_ok, Option.isSome_some, if_true, Sem.run_pure, Option.isSome_none, Bool.false_eq_true, if_false, if_neg hne, hq]
theorem zp (H : az env w0 ρ h w) {t : TypeId} {x r : SV} {v : Value} {f : Nat} (hx : x.Rel env ρ v) (he : (Bl P t x f).bx env h r h') :
    aF P env w0 ρ nm h' w (Instr.fieldAt t v f) r := by
 simp only [Bl, run_bind, bF] at he; obtain ⟨u, _, ⟨hu, rfl⟩, he⟩ := he; cases u with
 | struct fields =>
   simp only [run_bind, ae] at he; obtain ⟨fd, _, ⟨hf, rfl⟩, sz, _, ⟨hsz, rfl⟩, he⟩ := he; obtain ⟨i, hi, rfl⟩ := dc hsz; cases x with
   | ptr n off =>
     simp only [SV.Rel] at hx; obtain ⟨p, hp, rfl⟩ := hx; cases off with
     | c j =>
       simp only at he; cases hs : i.size with
       | zero =>
         rw [hs] at he; simp only [run_bind, aU] at he; obtain ⟨o, _, ⟨ho, rfl⟩, he⟩ := he; cases o with
         | cells T cs =>
           simp only [run_bind, aq, run_pure] at he; obtain ⟨_, _, ⟨hb1, rfl⟩, _, _, ⟨h0, rfl⟩, _, _, ⟨hb2, rfl⟩, rfl, rfl⟩ := he; obtain ⟨q, vs, g1, g2, g3, g4, g5, g6⟩ := H.bk n _ ho; obtain rfl : q = p := by rw [hp] at g1; exact (Option.some.inj g1).symm
           have h0 : 0 < P.cellsOf T := by simp only [Nat.blt] at h0; exact Nat.le_of_ble_eq_true h0
           obtain ⟨n1, e1⟩ := m3 (P := P) (o := j) g6 h0 hb1; obtain ⟨n2, e2⟩ := m3 (P := P) (o := j + fd.offset) g6 h0 hb2; refine ⟨.pointer (some (if n2 = n1 + fd.byteOffset then ⟨q.block, j + fd.offset, none⟩ else ⟨q.block, j + fd.offset, some (n1 + fd.byteOffset)⟩)), w, ρ, ?_, af.le_refl ρ, fun n hn => .inl hn, H, ⟨_, rfl⟩⟩
           simp only [Instr.fieldAt, Instr.sureAddr, fieldPlace, partAt, Sem.run_bind, aN hu, hf, Result.andThen_ok, Sem.run_pure, cb hi, hs, if_true, mg.den, g3, Nat.zero_add, e1, e2]
         | _ => exact he.elim
       | succ k =>
         rw [hs] at he; simp only [run_pure] at he; obtain ⟨rfl, rfl⟩ := he; refine aF.same H ?_ ⟨p, hp, rfl⟩; have : ¬ (i.size = 0) := by omega
         simp [Instr.fieldAt, Instr.sureAddr, fieldPlace, aN hu, hf, cb hi, this, cT, mg.den, Nat.add_assoc]
     | el ix s j =>
       simp only at he; cases hs : i.size with
       | zero => rw [hs] at he; exact he.elim
       | succ k =>
         rw [hs] at he; simp only [run_pure] at he; obtain ⟨rfl, rfl⟩ := he; refine aF.same H ?_ ⟨p, hp, rfl⟩; have : ¬ (i.size = 0) := by omega
         simp [Instr.fieldAt, Instr.sureAddr, fieldPlace, aN hu, hf, cb hi, this, cT, mg.den, Nat.add_assoc]
   | dC ks e ix j =>
     simp only [SV.Rel] at hx; obtain ⟨b, o, rfl, hrow⟩ := hx; simp only at he; cases hs : i.size with
     | zero => rw [hs] at he; exact he.elim
     | succ k =>
       rw [hs] at he; simp only [run_pure] at he; obtain ⟨rfl, rfl⟩ := he; refine aF.same H (v := .pointer (some ⟨b, o + (j + fd.offset), none⟩)) ?_ ⟨b, o, rfl, hrow⟩; have : ¬ (i.size = 0) := by omega
       simp [Instr.fieldAt, Instr.sureAddr, fieldPlace, aN hu, hf, cb hi, this, cT, Nat.add_assoc]
   | _ => exact he.elim
 | _ => exact he.elim
theorem Je (H : az env w0 ρ h w) {t : TypeId} {x r : SV} {v : Value} {f : Nat} (hx : x.Rel env ρ v) (he : (F9 P t x f).bx env h r h') :
    aF P env w0 ρ nm h' w (Instr.field t v f) r := by
 simp only [F9, run_bind, bF] at he; obtain ⟨u, _, ⟨hu, rfl⟩, he⟩ := he; split at he
 ·simp only [SV.Rel] at hx; obtain ⟨vs, rfl, hvs⟩ := hx; simp only [run_bind, ae, bF, eR] at he; obtain ⟨fd, _, ⟨hf, rfl⟩, d, _, ⟨hd, rfl⟩, i, _, ⟨hi, rfl⟩, he⟩ := he; cases hagg : jz d with
  | true =>
    rw [hagg] at he; simp only [run_bind, iK, run_pure] at he; obtain ⟨l, _, ⟨hl, hlen, rfl⟩, rfl, rfl⟩ := he; have hr := (hvs.drop fd.offset).take i.size; rw [<- hl] at hr; refine aF.same H (v := .agg ((vs.drop fd.offset).take i.size).toArray) ?_ ⟨_, rfl, hr⟩
    have e : vs.toArray.extract fd.offset (fd.offset + i.size) = ((vs.drop fd.offset).take i.size).toArray := by
     apply Array.ext'; simp [List.extract_eq_take_drop]
    simp only [Instr.field, part, Sem.run_bind, aN hu, hf, Result.andThen_ok, asAgg, Sem.run_pure, iY hd, hagg, if_true, cb hi, e]
  | false =>
    rw [hagg] at he; simp only [ae] at he; obtain ⟨hc, rfl⟩ := he; obtain ⟨u, h1, h2⟩ := hvs.get hc; refine aF.same H ?_ h2; simp [Instr.field, part, aN hu, hf, asAgg, iY hd, hagg, h1]
 ·exact he.elim
theorem Js (H : az env w0 ρ h w) {t : TypeId} {x ix r : SV} {v u : Value} (hx : x.Rel env ρ v) (hi : ix.Rel env ρ u) (he : (Et P t x ix).bx env h r h') :
    aF P env w0 ρ nm h' w (Instr.indexAt t v u) r := by
 simp only [Et, run_bind, bF] at he; obtain ⟨ty, _, ⟨hty, rfl⟩, he⟩ := he; split at he
 ·rename_i elem n sz lo len k i; simp only [run_bind, ae, aq, sy, run_pure] at he; obtain ⟨s, _, ⟨hs, rfl⟩, _, _, ⟨hss, rfl⟩, _, _, ⟨⟨hi0, hi1⟩, rfl⟩, rfl, rfl⟩ := he; obtain ⟨ti, hti, rfl⟩ := dc hs; obtain rfl := Nat.eq_of_beq_eq_true hss; simp only [SV.Rel] at hx hi; subst hi; obtain ⟨p, A, hp, rfl, hx2, hx3, hx1, hx4⟩ := hx; have hA := hx3 (by omega)
  subst hA; refine aF.same H (v := .pointer (some ⟨p.block, p.base + (lo.den env).I.toNat * ti.size + (i.den env).I.toNat * ti.size, none⟩)) ?_ ⟨p, hp, ?_⟩
  ·have cW : (i.den env).I < (((len.den env).I.toNat : Nat) : Int) := by omega
   simp only [Instr.indexAt, Sem.run_bind, asIntOf, Sem.run_pure, Result.andThen_ok, aN hty, if_pos (And.intro hi0 cW), cb hti, cT]
  ·simp only [mg.den, jA]
   congr 3
   rw [Int.toNat_add hx4 hi0, Nat.add_mul]; omega
 ·rename_i elem ks e k i; simp only [run_bind, ae, aq, sy, run_pure] at he; obtain ⟨s, _, ⟨hs, rfl⟩, _, _, ⟨hss, rfl⟩, _, _, ⟨⟨hi0, hi1⟩, rfl⟩, rfl, rfl⟩ := he; obtain ⟨ti, hti, rfl⟩ := dc hs; have hss := Nat.eq_of_beq_eq_true hss; simp only [SV.Rel, DK.Rel] at hx hi; subst hi; obtain ⟨A, cap, rfl, hx1, hx2⟩ := hx; rw [bA] at hi1; have hi1 : (i.den env).I < (((e.den env).T.length : Nat) : Int) := hi1; obtain ⟨b, o, rfl, hrow⟩ := hx2 (by omega)
  refine aF.same H (v := .pointer (some ⟨b, o + (i.den env).I.toNat * ti.size, none⟩)) ?_ ⟨b, o + (i.den env).I.toNat * ti.size, rfl, ?_⟩
  ·simp only [Instr.indexAt, Sem.run_bind, asIntOf, Sem.run_pure, Result.andThen_ok, aN hty, if_pos (And.intro hi0 hi1), cb hti, cT]
  ·have := hrow (i.den env).I.toNat (by omega)
   rw [<- hss] at this; exact this
 ·rename_i alen elem n j k i; simp only [run_bind, ae, aq, run_pure] at he; obtain ⟨s, _, ⟨hs, rfl⟩, m, _, ⟨hm, rfl⟩, _, _, ⟨cW, rfl⟩, rfl, rfl⟩ := he; obtain ⟨ti, hti, rfl⟩ := dc hs; have hM := ni (env := env) hm; have cW : m < alen := by simp only [Nat.blt] at cW; exact Nat.le_of_ble_eq_true cW
  simp only [SV.Rel] at hx hi; subst hi; obtain ⟨p, hp, rfl⟩ := hx; refine aF.same H ?_ ⟨p, hp, rfl⟩; have h2 : (0 : Int) <= (m : Int) /\ (m : Int) < (alen : Int) := by omega
  simp only [Instr.indexAt, Sem.run_bind, asIntOf, Sem.run_pure, Result.andThen_ok, aN hty, Instr.sureAddr, hM, if_pos h2, cb hti, cT, Int.toNat_natCast, mg.den, Nat.add_assoc]
 ·exact he.elim
theorem J5 (H : az env w0 ρ h w) {t : TypeId} {x ix r : SV} {v u : Value} (hx : x.Rel env ρ v) (hi : ix.Rel env ρ u) (he : (Gl P t x ix).bx env h r h') :
    aF P env w0 ρ nm h' w (Instr.index t v u) r := by
 simp only [Gl, run_bind, bF] at he; obtain ⟨ty, _, ⟨hty, rfl⟩, he⟩ := he; split at he
 ·simp only [run_bind, sy, bA, run_pure] at he; obtain ⟨_, _, ⟨⟨hi0, hi1⟩, rfl⟩, rfl, rfl⟩ := he; simp only [SV.Rel] at hx hi; subst hi; subst hx; simp only [E.den, O1.den, Ii] at hi1; rename_i s _ i _; have cW : (i.den env).I.toNat < (s.den env).S.size := by omega
  have hlt2 : (i.den env).I.toNat < (s.den env).S.data.size := cW; refine aF.same H (v := .int .u8 ((s.den env).S.data[(i.den env).I.toNat]'hlt2).toNat) ?_ ?_
  ·have hg : (s.den env).S[(i.den env).I.toNat]? = some ((s.den env).S.data[(i.den env).I.toNat]'hlt2) := by
     rw [getElem?_pos (s.den env).S _ cW]; rfl
   simp only [Instr.index, Sem.run_bind, asIntOf, Sem.run_pure, Result.andThen_ok, aN hty, if_pos hi0, hg]
  ·simp only [SV.Rel, E.den, O2.den, Ii, Array.getElem?_eq_getElem hlt2, Option.getD_some]
 ·exact he.elim
theorem wz {k : IntKind} {n : Int} {y : Nat} {code : BoundsCode} (h0 : 0 <= n) (h1 : n <= (y : Int)) : (Instr.sliceBound (.int k n) y code).run P w = .ok n.toNat w := by
 simp only [Instr.sliceBound, Sem.run_bind, asIntOf, Sem.run_pure, Result.andThen_ok, if_pos (And.intro h0 h1)]
theorem sO {isSl : Bool} {len cap : Nat} {lo hi : Option Value} {l hh : Int}
    (hl : (lo = none /\ l = 0) \/ ∃ k, lo = some (.int k l)) (hhi : (hi = none /\ hh = (len : Int)) \/ ∃ k, hi = some (.int k hh))
    (h0 : 0 <= l) (h1 : l <= hh) (h2 : hh <= (cap : Int)) : (Instr.sliceBounds isSl len cap lo hi none).run P w = .ok (l.toNat, hh.toNat, cap) w := by
 have b2 : ∀ k code, (Instr.sliceBound (.int k hh) cap code).run P w = .ok hh.toNat w := fun k code => wz (by omega) h2
 have b1 : ∀ k code, (Instr.sliceBound (.int k l) hh.toNat code).run P w = .ok l.toNat w := fun k code => wz h0 (by omega)
 rcases hl with ⟨rfl, rfl⟩ | ⟨k, rfl⟩ <;> rcases hhi with ⟨rfl, rfl⟩ | ⟨k', rfl⟩
 ·simp [Instr.sliceBounds]
 ·simp only [Instr.sliceBounds, Sem.run_bind, Sem.run_pure, Result.andThen_ok, b2]; simp
 ·have := b1 k .sliceB; simp only [Int.toNat_natCast] at this; simp only [Instr.sliceBounds, Sem.run_bind, Sem.run_pure, Result.andThen_ok, Option.isSome_none, Bool.false_eq_true, if_false, this, Int.toNat_natCast]
 ·simp only [Instr.sliceBounds, Sem.run_bind, Sem.run_pure, Result.andThen_ok, Option.isSome_none, Bool.false_eq_true, if_false, b1, b2]
inductive o8 (env : Env) (ρ : af) : Option SV -> Option Value -> Prop
 | none : o8 env ρ none none
 | some {x : SV} {v : Value} : x.Rel env ρ v -> o8 env ρ (some x) (some v)
theorem BT {a b : Int} (h0 : 0 <= b) (h : b <= a) : (a - b).toNat = a.toNat - b.toNat := by omega
theorem pX {dflt e : E} {o : Option SV} {vo : Option Value} {h h' : aL} (ho : o8 env ρ o vo) (hr : (qN dflt o).bx env h e h') :
    h = h' /\ ((vo = none /\ (e.den env).I = (dflt.den env).I) \/ ∃ k, vo = some (.int k (e.den env).I)) := by
 cases ho with
 | none =>
   simp only [qN, aT] at hr; obtain ⟨rfl, rfl⟩ := hr; exact ⟨rfl, .inl ⟨rfl, rfl⟩⟩
 | some hv =>
   rename_i y vy; cases y with
   | int k e =>
     simp only [qN, aT] at hr; obtain ⟨rfl, rfl⟩ := hr; simp only [SV.Rel] at hv; subst hv; exact ⟨rfl, .inr ⟨k, rfl⟩⟩
   | _ => exact hr.elim
theorem Gb (H : az env w0 ρ h w) {t : TypeId} {x r hi mx : SV} {v vh vm : Value} {lo : Option SV} {vlo : Option Value} (hx : x.Rel env ρ v) (hlo : o8 env ρ lo vlo) (hhi : hi.Rel env ρ vh) (hmx : mx.Rel env ρ vm)
    (he : (BG P t x lo hi mx).bx env h r h') : aF P env w0 ρ nm h' w (Instr.sliceAt t v vlo (some vh) (some vm)) r := by
 simp only [BG, run_bind, bF] at he; obtain ⟨ty, _, ⟨hty, rfl⟩, he⟩ := he; split at he
 ·simp only [run_bind, ae, aq, bU, cq, dS, run_pure] at he; rename_i elem ks x k hE k' mE; obtain ⟨s, _, ⟨hs, rfl⟩, _, _, ⟨hss, rfl⟩, _, _, ⟨hm, rfl⟩, _, _, ⟨b0, rfl⟩, _, _, ⟨b1, rfl⟩, rfl, rfl⟩ := he; obtain ⟨ti, hti, rfl⟩ := dc hs; have hss := Nat.eq_of_beq_eq_true hss; obtain rfl := E.ax hm; cases hlo; simp only [SV.Rel] at hhi hmx; subst hhi; subst hmx; simp only [SV.Rel, DK.Rel] at hx; obtain ⟨A, cap, rfl, hx1, hx2⟩ := hx; simp only [bA, E.den, O1.den, Ii] at b1
  have hb : (Instr.sliceBounds true (x.den env).T.length cap none (some (.int k (hE.den env).I)) (some (.int k' (hE.den env).I))).run P w = .ok (0, (hE.den env).I.toNat, (hE.den env).I.toNat) w := by
   have b2 : ∀ (c : Nat) q code, ((hE.den env).I <= (c : Int)) -> (Instr.sliceBound (.int q (hE.den env).I) c code).run P w = .ok (hE.den env).I.toNat w := fun c q code hc => wz b0 hc; simp only [Instr.sliceBounds, Sem.run_bind, Sem.run_pure, Result.andThen_ok, b2 cap k' _ (by omega), b2 (hE.den env).I.toNat k _ (by omega), if_true]
  have hT : ((yF x (.il 0) hE).den env).T = (x.den env).T.take (hE.den env).I.toNat := by rw [MS]; rfl
  have hTl : ((yF x (.il 0) hE).den env).T.length = (hE.den env).I.toNat := by rw [hT, List.length_take]; omega
  refine aF.same H (v := .slice (if (hE.den env).I.toNat = 0 then A else A.map (·.add (0 * ti.size))) ((hE.den env).I.toNat - 0) ((hE.den env).I.toNat - 0)) ?_ ?_
  ·simp only [Instr.sliceAt, Instr.slice, Sem.run_bind, aN hty, Result.andThen_ok, hb, cb hti, Sem.run_pure]
  ·simp only [SV.Rel, DK.Rel]; refine ⟨⟨_, _, by rw [hTl]; rfl, by rw [hTl]; exact Nat.le_refl _, fun h0 => ?_⟩, _, _, rfl⟩
   rw [hTl] at h0; obtain ⟨b, o, rfl, hr⟩ := hx2 (by omega)
   rw [if_neg (by omega)]
   refine ⟨b, o, by simp [Addr.add], fun i hi => ?_⟩
   rw [hTl] at hi
   have e4 : (fun j => ((yF x (.il 0) hE).den env).at i j) = fun j => (x.den env).at i j := by
    funext j
    unfold Dv.at; rw [hT, List.getElem?_take_of_lt hi]
   rw [e4]; exact hr i (by omega)
 ·exact he.elim
theorem JH (H : az env w0 ρ h w) {t : TypeId} {x r : SV} {v : Value} {lo hi : Option SV} {vlo vhi : Option Value} (hx : x.Rel env ρ v) (hlo : o8 env ρ lo vlo) (hhi : o8 env ρ hi vhi)
    (he : (zW P t x lo hi).bx env h r h') : aF P env w0 ρ nm h' w (Instr.sliceAt t v vlo vhi none) r := by
 simp only [zW, run_bind, bF] at he; obtain ⟨ty, _, ⟨hty, rfl⟩, l, h1, hl, he⟩ := he; obtain ⟨rfl, hL⟩ := pX hlo hl; rw [dS] at hL; split at he
 ·rename_i s; simp only [run_bind, bU, cq, dS, bA, run_pure] at he; obtain ⟨e, h2, hhe, _, _, ⟨b0, rfl⟩, _, _, ⟨b1, rfl⟩, _, _, ⟨b2, rfl⟩, rfl, rfl⟩ := he; obtain ⟨rfl, hH⟩ := pX hhi hhe; simp only [SV.Rel] at hx; subst hx; simp only [bA, E.den, O1.den, Ii] at hH b2; have := sO (P := P) (w := w) (isSl := false) hL hH b0 b1 b2; exact aF.same H (v := .string ((s.den env).S.extract (l.den env).I.toNat (e.den env).I.toNat)) (by simp only [Instr.sliceAt, Instr.slice, Sem.run_bind, aN hty, Result.andThen_ok, Option.isSome_none, Bool.false_eq_true, if_false, this, Sem.run_pure]) (by simp only [SV.Rel, E.den, Ss])
 ·simp only [run_bind, ae, aq, bU, cq, dS, run_pure] at he; rename_i elem n sz lo0 len; obtain ⟨s, _, ⟨hs, rfl⟩, _, _, ⟨hss, rfl⟩, e, h2, hhe, _, _, ⟨b0, rfl⟩, _, _, ⟨b1, rfl⟩, _, _, ⟨b2, rfl⟩, rfl, rfl⟩ := he; obtain ⟨rfl, hH⟩ := pX hhi hhe; obtain ⟨ti, hti, rfl⟩ := dc hs; obtain rfl := Nat.eq_of_beq_eq_true hss; simp only [SV.Rel] at hx; obtain ⟨p, A, hp, rfl, hx2, hx3, hx1, hx4⟩ := hx; have hlen0 : 0 <= (len.den env).I := by omega
  have hH' : (vhi = none /\ (e.den env).I = (((len.den env).I.toNat : Nat) : Int)) \/ ∃ k, vhi = some (.int k (e.den env).I) := by
   rcases hH with ⟨q1, q2⟩ | q
   ·exact .inl ⟨q1, by omega⟩
   ·exact .inr q
  have hb := sO (P := P) (w := w) (isSl := true) (len := (len.den env).I.toNat) (cap := p.cap - (lo0.den env).I.toNat) hL hH' b0 b1 (by omega)
  refine aF.same H (v := .slice (if p.cap - (lo0.den env).I.toNat = (l.den env).I.toNat then A else A.map (·.add ((l.den env).I.toNat * ti.size))) ((e.den env).I.toNat - (l.den env).I.toNat) (p.cap - (lo0.den env).I.toNat - (l.den env).I.toNat)) ?_ ⟨p, (if p.cap - (lo0.den env).I.toNat = (l.den env).I.toNat then A else A.map (·.add ((l.den env).I.toNat * ti.size))), hp, ?_, ?_, ?_, ?_, ?_⟩
  ·simp only [Instr.sliceAt, Instr.slice, Sem.run_bind, aN hty, Result.andThen_ok, hb, cb hti, Sem.run_pure]
  ·simp only [jA, we]; rw [BT b0 b1, Int.toNat_add hx4 b0, Nat.sub_sub]
  ·rw [<- hx2]; split
   ·exact Iff.rfl
   ·cases A <;> simp
  ·simp only [jA, we]; rw [Int.toNat_add hx4 b0]; intro cW; rw [if_neg (by omega), hx3 (by omega)]
   simp only [Option.map_some, cT, Nat.add_mul, Nat.add_assoc]
  ·simp only [jA, we]; omega
  ·simp only [jA, we]; omega
 ·simp only [run_bind, ae, aq, bU, cq, dS, run_pure] at he; rename_i elem ks x; obtain ⟨s, _, ⟨hs, rfl⟩, _, _, ⟨hss, rfl⟩, e, h2, hhe, _, _, ⟨b0, rfl⟩, _, _, ⟨b1, rfl⟩, _, _, ⟨b2, rfl⟩, rfl, rfl⟩ := he; obtain ⟨rfl, hH⟩ := pX hhi hhe; obtain ⟨ti, hti, rfl⟩ := dc hs; have hss := Nat.eq_of_beq_eq_true hss; simp only [SV.Rel, DK.Rel] at hx; obtain ⟨A, cap, rfl, hx1, hx2⟩ := hx; simp only [bA, E.den, O1.den, Ii] at hH b2; have hb := sO (P := P) (w := w) (isSl := true) (len := (x.den env).T.length) (cap := cap) hL hH b0 b1 (by omega)
  have hT : ((yF x l e).den env).T = ((x.den env).T.take (e.den env).I.toNat).drop (l.den env).I.toNat := MS x l e
  have hTl : ((yF x l e).den env).T.length = (e.den env).I.toNat - (l.den env).I.toNat := by
   rw [hT, List.length_drop, List.length_take]; omega
  refine aF.same H (v := .slice (if cap = (l.den env).I.toNat then A else A.map (·.add ((l.den env).I.toNat * ti.size))) ((e.den env).I.toNat - (l.den env).I.toNat) (cap - (l.den env).I.toNat)) ?_ ?_
  ·simp only [Instr.sliceAt, Instr.slice, Sem.run_bind, aN hty, Result.andThen_ok, hb, cb hti, Sem.run_pure]
  ·simp only [SV.Rel, DK.Rel]; refine ⟨_, _, by rw [hTl], by rw [hTl]; omega, fun hl => ?_⟩
   rw [hTl] at hl; obtain ⟨b, o, rfl, hrow⟩ := hx2 (by omega)
   rw [if_neg (by omega)]
   refine ⟨b, o + (l.den env).I.toNat * ti.size, by simp only [Option.map_some, cT], fun i hi => ?_⟩
   rw [hTl] at hi; have := hrow ((l.den env).I.toNat + i) (by omega)
   have e1 : (fun j => ((yF x l e).den env).at i j) = fun j => (x.den env).at ((l.den env).I.toNat + i) j := by
    funext j
    unfold Dv.at; rw [hT, List.getElem?_drop, List.getElem?_take_of_lt (by omega)]
   rw [e1]
   have e2 : ∀ j, o + ((l.den env).I.toNat + i) * ks.len + j = o + (l.den env).I.toNat * ti.size + i * ks.len + j := fun j => by
    rw [<- hss, Nat.add_mul]; omega
   simp only [e2] at this; exact this
 ·exact he.elim
theorem I9 (H : az env w0 ρ h w) {t : TypeId} {x r : SV} {v : Value} (hx : x.Rel env ρ v) (he : (Gf P t x).bx env h r h') :
    aF P env w0 ρ nm h' w (Instr.makeInterface t v) r := by
 simp only [Gf, run_bind, bF] at he; obtain ⟨ty, _, ⟨hty, rfl⟩, he⟩ := he; split at he
 ·exact he.elim
 ·rename_i hne; simp only [run_pure] at he; obtain ⟨rfl, rfl⟩ := he; refine aF.same H (v := .iface t v) ?_ ⟨v, rfl, hx⟩; simp only [Instr.makeInterface, Sem.run_bind, aN hty, Result.andThen_ok]
  cases ty <;> first
   | rfl
   | exact absurd rfl (hne _)
theorem JR {want : Array (String × TypeId)} {got : Array Method} (h : (sr want got).isEmpty = true) : Instr.missingMethod want got = none := by
 unfold Instr.missingMethod; have e : (want.toList.filter fun (name, sig) => !got.any fun m => m.name == name && m.sig == sig).map (·.1) = [] := List.isEmpty_iff.1 h; simp only [e]; rfl
theorem Jq {want : Array (String × TypeId)} {got : Array Method} (h : (sr want got).isEmpty = false) : ∃ m, Instr.missingMethod want got = some m := by
 unfold Instr.missingMethod; have hne : sr want got ≠ [] := fun e => by rw [e] at h; cases h
 show ∃ m, (let (unexported, exported) := (sr want got).partition (·.contains '.'); Instr.least exported <|> Instr.least (unexported.map fun id => (id.splitOn ".").getLastD id)) = some m
 rw [List.partition_eq_filter_filter]; show ∃ m, (Instr.least _ <|> Instr.least _) = some m; cases h1 : (sr want got).filter (not ∘ fun x => x.contains '.') with
 | cons a l => exact ⟨_, rfl⟩
 | nil =>
   cases h2 : (sr want got).filter (fun x => x.contains '.') with
   | cons a l => exact ⟨_, rfl⟩
   | nil =>
     exfalso; cases hm : sr want got with
     | nil => exact hne hm
     | cons a l =>
       rw [List.filter_eq_nil_iff] at h1 h2; have g1 := h1 a (by rw [hm]; exact List.mem_cons_self ..)
       have g2 := h2 a (by rw [hm]; exact List.mem_cons_self ..)
       simp only [Function.comp, Bool.not_eq_true', Bool.not_eq_false, Bool.not_eq_true] at g1 g2; rw [g2] at g1; cases g1
theorem Fy (H : az env w0 ρ h w) {xt t : TypeId} {x r : SV} {v : Value} {ok : Bool} (hx : x.Rel env ρ v) (he : (A9 P x t ok).bx env h r h') :
    aF P env w0 ρ nm h' w (Instr.typeAssert v xt t ok) r := by
 simp only [A9, run_bind, bF] at he; obtain ⟨ty, _, ⟨hty, rfl⟩, he⟩ := he
 have no : ∀ {q : Prog SV} {s d : Option TypeId} {m : String}, q = (cond ok (do let z <- nQ P t; return .fq [z, .bool (.bl false)]) (.fail "a type assertion that fails")) -> q.bx env h r h' ->
     ok = true /\ h = h' /\ ∃ z, r.Rel env ρ (.tuple #[z, .bool false]) /\ ∀ w : World, (zeroValue t).run P w = .ok z w := by
  intro q s d m hq hr; subst hq; cases ok with
  | false => exact hr.elim
  | true =>
    simp only [cond_true, run_bind, gP, run_pure] at hr; obtain ⟨z, _, ⟨⟨i, zv, h1, h2, h3⟩, rfl⟩, rfl, rfl⟩ := hr; exact ⟨rfl, rfl, zv, ⟨[zv, .bool false], rfl, ⟨zv, _, rfl, ofVal_ok zv h3, ⟨_, _, rfl, rfl, rfl⟩⟩⟩, qT h1 h2⟩
 have yes : ∀ {q : Prog SV} {y : SV} {u : Value}, q = (cond ok (.ret (.fq [y, .bool (.bl true)])) (.ret y)) -> y.Rel env ρ u -> q.bx env h r h' ->
     h = h' /\ r.Rel env ρ (if ok then .tuple #[u, .bool true] else u) := by
  intro q y u hq hy hr; subst hq; cases ok with
  | false => simp only [cond_false, aT] at hr; obtain ⟨rfl, rfl⟩ := hr; exact ⟨rfl, hy⟩
  | true => simp only [cond_true, aT] at hr; obtain ⟨rfl, rfl⟩ := hr; exact ⟨rfl, [u, .bool true], rfl, ⟨u, _, rfl, hy, ⟨_, _, rfl, rfl, rfl⟩⟩⟩
 split at he
 ·obtain ⟨rfl, rfl, z, h1, h2⟩ := no (s := none) (d := none) (m := "") rfl he; simp only [SV.Rel] at hx; subst hx; exact aF.same H (by simp only [Instr.typeAssert, Sem.run_bind, aN hty, Result.andThen_ok, if_true, h2, Sem.run_pure]) h1
 ·rename_i want t' y'; have hx' := hx; simp only [SV.Rel] at hx; obtain ⟨u, rfl, hu⟩ := hx; simp only [run_bind, eR] at he; obtain ⟨i, _, ⟨hi, rfl⟩, he⟩ := he; cases hmb : (sr want i.methods).isEmpty with
  | true =>
    rw [hmb] at he; have hm := JR hmb; obtain ⟨rfl, h1⟩ := yes rfl hx' he; exact aF.same H (by simp only [Instr.typeAssert, Sem.run_bind, aN hty, Result.andThen_ok, qc hi, hm, Sem.run_pure]) h1
  | false =>
    rw [hmb] at he; obtain ⟨m, hm⟩ := Jq hmb; obtain ⟨rfl, rfl, z, h1, h2⟩ := no (s := none) (d := none) (m := "") rfl he; exact aF.same H (by simp only [Instr.typeAssert, Sem.run_bind, aN hty, Result.andThen_ok, qc hi, hm, if_true, h2, Sem.run_pure]) h1
 ·rename_i hne; obtain ⟨rfl, rfl, z, h1, h2⟩ := no (s := none) (d := none) (m := "") rfl he; simp only [SV.Rel] at hx; subst hx; refine aF.same H ?_ h1; simp only [Instr.typeAssert, Sem.run_bind, aN hty, Result.andThen_ok]
  cases ty <;> first
   | (exact absurd rfl (hne _); done)
   | (simp only [if_true, Sem.run_bind, h2, Result.andThen_ok, Sem.run_pure]; done)
 ·rename_i t' y' hne; simp only [SV.Rel] at hx; obtain ⟨u, rfl, hu⟩ := hx; cases hb : Nat.beq t' t with
  | true =>
    rw [hb] at he; simp only [cond_true] at he; obtain rfl := Nat.eq_of_beq_eq_true hb; obtain ⟨rfl, h1⟩ := yes (u := u) rfl hu he; refine aF.same H ?_ h1; simp only [Instr.typeAssert, Sem.run_bind, aN hty, Result.andThen_ok]
    cases ty <;> first
     | (exact absurd rfl (hne _); done)
     | (simp only [if_true, Sem.run_pure]; done)
  | false =>
    rw [hb] at he; simp only [cond_false] at he; have hnt : t' ≠ t := fun e => by subst e; rw [Nat.beq_refl] at hb; cases hb
    obtain ⟨rfl, rfl, z, h1, h2⟩ := no (s := none) (d := none) (m := "") rfl he; refine aF.same H ?_ h1; simp only [Instr.typeAssert, Sem.run_bind, aN hty, Result.andThen_ok]
    cases ty <;> first
     | (exact absurd rfl (hne _); done)
     | (simp only [if_neg hnt, if_true, Sem.run_bind, h2, Result.andThen_ok, Sem.run_pure]; done)
 ·exact he.elim
theorem Pg (H : az env w0 ρ h w) {t : TypeId} {ty : TypeId} {x r : SV} {v : Value} (hx : x.Rel env ρ v) (he : (WJ P t x).bx env h r h') :
    aF P env w0 ρ nm h' w (Builtin.len_ #[t] ty #[v]) r := by
 simp only [WJ, run_bind, bF] at he; obtain ⟨d, _, ⟨hd, rfl⟩, he⟩ := he; split at he
 ·rename_i s; simp only [SV.Rel] at hx; subst hx; simp only [run_pure] at he; obtain ⟨rfl, rfl⟩ := he; exact aF.same H (v := .int .i64 ((s.den env).S.size : Nat)) (by simp [Builtin.len_, aN hd, goInt]) (by simp only [SV.Rel, bA]; rfl)
 ·rename_i n _; simp only [run_pure] at he; obtain ⟨rfl, rfl⟩ := he; exact aF.same H (v := .int .i64 (n : Nat)) (by simp [Builtin.len_, aN hd, goInt]) rfl
 ·simp only [SV.Rel] at hx; subst hx; simp only [run_pure] at he; obtain ⟨rfl, rfl⟩ := he; exact aF.same H (v := .int .i64 0) (by simp [Builtin.len_, aN hd, goInt]) rfl
 ·simp only [run_bind, bU, cq, dS, run_pure] at he; obtain ⟨_, _, ⟨h0, rfl⟩, rfl, rfl⟩ := he; simp only [SV.Rel] at hx; obtain ⟨p, A, hp, rfl, _⟩ := hx; exact aF.same H (v := .int .i64 (((E.den env _).I.toNat : Nat) : Int)) (by simp [Builtin.len_, aN hd, goInt]; rfl) (by simp only [SV.Rel]; congr 1; omega)
 ·simp only [SV.Rel] at hx; subst hx; simp only [run_pure] at he; obtain ⟨rfl, rfl⟩ := he; exact aF.same H (v := .int .i64 0) (by simp [Builtin.len_, aN hd, goInt]) rfl
 ·rename_i n; simp only [run_bind, aU] at he; obtain ⟨o, _, ⟨ho, rfl⟩, he⟩ := he; split at he
  ·rename_i m ix kk sz known; simp only [run_pure] at he; obtain ⟨rfl, rfl⟩ := he; simp only [SV.Rel] at hx; obtain ⟨p, hp, rfl⟩ := hx; obtain ⟨q, es, clk, kv, h1, h2, h3, h4, h5, h6, h7, h8⟩ := H.bk n _ ho; rw [hp] at h1; injection h1 with h1; subst h1; exact aF.same H (v := .int .i64 (es.size : Nat)) (by simp [Builtin.len_, aN hd, goInt, getObj, Sem.run, h5]) (by simp only [SV.Rel]; rw [h7])
  ·exact he.elim
 ·split at he
  ·simp only [run_pure] at he; obtain ⟨rfl, rfl⟩ := he; simp only [SV.Rel, DK.Rel] at hx; obtain ⟨A, cap, rfl, _⟩ := hx; rename_i e _ _ _ _; exact aF.same H (v := .int .i64 (((e.den env).T.length : Nat) : Int)) (by simp [Builtin.len_, aN hd, goInt]) (by simp only [SV.Rel, bA]; rfl)
  ·exact he.elim
 ·exact he.elim
end
end Go.Sx
