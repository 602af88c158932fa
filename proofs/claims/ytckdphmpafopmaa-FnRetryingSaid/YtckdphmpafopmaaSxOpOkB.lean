/-
  SX, PART 5b: loads, stores, new blocks.
-/
import Derived.Test.YtckdphmpafopmaaSxOpOkA
namespace Go.Sx
open Go.RowKit
set_option linter.unusedVariables false
set_option linter.unusedSimpArgs false

def SemOk (P : Program) (env : Env) (w0 : Anchor) (ρ : PMap) (nm : Nat) (h' : Heap) (w : World) (s : Sem Value) (x : SV) : Prop :=
  ∃ v w' ρ', s.run P w = .ok v w' ∧ ρ.le ρ' ∧ (∀ n, ρ n = none → ρ' n = none ∨ n = nm) ∧ HSat env w0 ρ' h' w' ∧ x.Rel env ρ' v

theorem SemOk.same {P : Program} {env : Env} {w0 : Anchor} {ρ : PMap} {nm : Nat} {h : Heap} {w : World} {s : Sem Value} {x : SV} {v : Value}
    (H : HSat env w0 ρ h w) (hr : s.run P w = .ok v w) (hx : x.Rel env ρ v) : SemOk P env w0 ρ nm h w s x :=
  ⟨v, w, ρ, hr, PMap.le_refl ρ, fun n hn => .inl hn, H, hx⟩

section
variable {P : Program} {env : Env} {w0 : Anchor} {w : World} {ρ : PMap} {h h' : Heap} {nm : Nat}

theorem run_und {t : TypeId} {d : TypeDesc} : (und P t).Run env h d h' ↔ P.underlying t = some d ∧ h = h' := run_ofOpt
theorem run_inf {t : TypeId} {i : TypeInfo} : (inf P t).Run env h i h' ↔ P.info? t = some i ∧ h = h' := run_ofOpt
theorem run_zeroS {t : TypeId} {z : SV} : (zeroS P t).Run env h z h' ↔ (∃ i zv, P.info? t = some i ∧ i.zero = some zv ∧ ofVal zv = some z) ∧ h = h' := by
  simp only [zeroS, run_bind, run_inf, run_ofOpt]
  constructor
  · rintro ⟨i, _, ⟨h1, rfl⟩, zv, _, ⟨h2, rfl⟩, h3, rfl⟩; exact ⟨⟨i, zv, h1, h2, h3⟩, rfl⟩
  · rintro ⟨⟨i, zv, h1, h2, h3⟩, rfl⟩; exact ⟨i, _, ⟨h1, rfl⟩, zv, _, ⟨h2, rfl⟩, h3, rfl⟩

theorem sizeT_some {t : TypeId} {s : Nat} (hs : sizeT P t = some s) : ∃ i, P.info? t = some i ∧ i.size = s := by
  unfold sizeT at hs
  cases hi : P.info? t with
  | none => rw [hi] at hs; cases hs
  | some i => rw [hi] at hs; exact ⟨i, rfl, by simpa using hs⟩

theorem ok_zero {t : TypeId} {z : SV} (hz : ∃ i zv, P.info? t = some i ∧ i.zero = some zv ∧ ofVal zv = some z) (w : World) : ∃ v, (zeroValue t).run P w = .ok v w ∧ z.Rel env ρ v := by
  obtain ⟨i, zv, h1, h2, h3⟩ := hz
  exact ⟨zv, s_zero h1 h2 w, ofVal_ok zv h3⟩

theorem ofVal_shut {v : Value} {z : SV} (hz : ofVal v = some z) : z.shut = true := by
  unfold ofVal at hz
  split at hz <;> first
    | (cases hz; done)
    | (injection hz with hz; subst hz; rfl)
    | (rename_i cs; cases hc : ofVals cs with
       | none => rw [hc] at hz; cases hz
       | some l => rw [hc] at hz; injection hz with hz; subst hz; rfl)

/-! ### load -/
theorem dcells_ok {ks : DKs} {e i : E} {cell : Nat → Option Value} (hr : ks.Rel ρ.fz (fun j => (e.den env).at (i.den env).I.toNat j) cell 0) :
    ∀ {n j : Nat} {l : List SV}, dcells ks e i j n = some l → ∃ vs, SV.Rels env ρ l vs ∧ vs.length = n ∧ ∀ k v, vs[k]? = some v → cell (j + k) = some v
  | 0, j, l, h => by
    simp only [dcells, Option.some.injEq] at h
    subst h
    exact ⟨[], rfl, rfl, fun k v hk => by simp at hk⟩
  | n + 1, j, l, h => by
    unfold dcells at h
    split at h
    · rename_i k l' hk hl
      injection h with h
      subst h
      obtain ⟨v, hv, hd⟩ := hr.get hk
      obtain ⟨vs, g1, g2, g3⟩ := dcells_ok hr hl
      rw [Nat.zero_add] at hv hd
      refine ⟨v :: vs, ⟨v, vs, rfl, dcellS_rel.2 hd, g1⟩, by simp [g2], fun m u hm => ?_⟩
      cases m with
      | zero => simp at hm; subst hm; exact hv
      | succ m =>
        rw [show j + (m + 1) = j + 1 + m by omega]
        exact g3 m u (by simpa using hm)
    · cases h
theorem fzcell_cell (H : HSat env w0 ρ h w) {b j : Nat} {v : Value} (hv : fzcell ρ.fz b j = some v) : w.cell? ⟨b, j, none⟩ = some v := by
  unfold fzcell at hv
  cases hb : ρ.fz b with
  | none => rw [hb] at hv; cases hv
  | some x =>
    rw [hb] at hv
    have hw := H.fz.at_ b x hb
    cases x <;> first
      | (simp only at hv; simp [World.cell?, hw, hv]; done)
      | (cases hv; done)
theorem loadS_same (H : HSat env w0 ρ h w) {t : TypeId} {x r : SV} {v : Value} (hx : x.Rel env ρ v) (he : (loadS P t x).Run env h r h') :
    h = h' ∧ ∃ u, (Instr.loadAt t v).run P w = .ok u w ∧ r.Rel env ρ u := by
  cases x with
  | ptr n off =>
    simp only [SV.Rel] at hx
    obtain ⟨p, hp, rfl⟩ := hx
    simp only [loadS, run_bind, run_und, run_inf, run_getN] at he
    obtain ⟨d, _, ⟨hd, rfl⟩, i, _, ⟨hi, rfl⟩, o, _, ⟨ho, rfl⟩, he⟩ := he
    cases hagg : isAggD d with
    | true =>
      rw [hagg] at he
      simp only [run_bind, run_pure] at he
      obtain ⟨l, _, hc, rfl, rfl⟩ := he
      obtain ⟨rfl, vs, h1, h2, h3⟩ := cellsAt_ok H ho hp hc
      refine ⟨rfl, .agg vs.toArray, ?_, ⟨vs, rfl, h1⟩⟩
      have := run_loadCells_list (P := P) w ⟨p.block, p.base + off.den env, none⟩ vs h3
      rw [h2] at this
      simp [Instr.loadAt, Instr.sureAddr, loadVar, s_isAgg hd, hagg, s_size hi, this]
    | false =>
      rw [hagg] at he
      simp only [run_bind] at he
      obtain ⟨l, _, hc, he⟩ := he
      obtain ⟨rfl, vs, h1, h2, h3⟩ := cellsAt_ok H ho hp hc
      match l, he with
      | [y], he =>
        simp only [run_pure] at he
        obtain ⟨rfl, rfl⟩ := he
        simp only [SV.Rels] at h1
        obtain ⟨u, r, rfl, hu, rfl⟩ := h1
        refine ⟨rfl, _, ?_, hu⟩
        have := h3 0 u rfl
        rw [add_at, Nat.add_zero] at this
        simp [Instr.loadAt, Instr.sureAddr, loadVar, s_isAgg hd, hagg, this]
      | [], he => exact he.elim
      | _ :: _ :: _, he => exact he.elim
  | dptr ks e i j =>
    simp only [SV.Rel] at hx
    obtain ⟨b, o, rfl, hrow⟩ := hx
    simp only [loadS, run_bind, run_und, run_inf] at he
    obtain ⟨d, _, ⟨hd, rfl⟩, ti, _, ⟨hi, rfl⟩, he⟩ := he
    cases hagg : isAggD d with
    | true =>
      rw [hagg] at he
      simp only [run_bind, run_ofOpt, run_pure] at he
      obtain ⟨l, _, ⟨hc, rfl⟩, rfl, rfl⟩ := he
      obtain ⟨vs, h1, h2, h3⟩ := dcells_ok hrow hc
      refine ⟨rfl, .agg vs.toArray, ?_, ⟨vs, rfl, h1⟩⟩
      have := run_loadCells_list (P := P) w ⟨b, o + j, none⟩ vs (fun k v hk => by rw [add_at, Nat.add_assoc]; exact fzcell_cell H (h3 k v hk))
      rw [h2] at this
      simp [Instr.loadAt, Instr.sureAddr, loadVar, s_isAgg hd, hagg, s_size hi, this]
    | false =>
      rw [hagg] at he
      simp only [run_bind, run_ofOpt] at he
      obtain ⟨l, _, ⟨hc, rfl⟩, he⟩ := he
      obtain ⟨vs, h1, h2, h3⟩ := dcells_ok hrow hc
      match l, he with
      | [y], he =>
        simp only [run_pure] at he
        obtain ⟨rfl, rfl⟩ := he
        simp only [SV.Rels] at h1
        obtain ⟨u, r, rfl, hu, rfl⟩ := h1
        refine ⟨rfl, _, ?_, hu⟩
        have := fzcell_cell H (h3 0 u rfl)
        rw [Nat.add_zero] at this
        simp [Instr.loadAt, Instr.sureAddr, loadVar, s_isAgg hd, hagg, this]
      | [], he => exact he.elim
      | _ :: _ :: _, he => exact he.elim
  | _ => exact he.elim

theorem loadS_ok (H : HSat env w0 ρ h w) {t : TypeId} {x r : SV} {v : Value} (hx : x.Rel env ρ v) (he : (loadS P t x).Run env h r h') :
    SemOk P env w0 ρ nm h' w (Instr.loadAt t v) r := by
  obtain ⟨rfl, u, h1, h2⟩ := loadS_same H hx he
  exact SemOk.same H h1 h2

/-! ### store -/
def putCells (c : Array Value) : Nat → List Value → Array Value
  | _, [] => c
  | k, v :: r => putCells (c.setIfInBounds k v) (k + 1) r
theorem putCells_size : ∀ (vs : List Value) (c : Array Value) (k : Nat), (putCells c k vs).size = c.size
  | [], _, _ => rfl
  | v :: r, c, k => by unfold putCells; rw [putCells_size r]; simp
theorem putCells_list : ∀ (vs : List Value) (c : Array Value) (k : Nat), k + vs.length ≤ c.size →
    (putCells c k vs).toList = c.toList.take k ++ vs ++ c.toList.drop (k + vs.length)
  | [], c, k, _ => by simp [putCells]
  | v :: r, c, k, hk => by
    simp only [List.length_cons] at hk
    unfold putCells
    rw [putCells_list r _ _ (by simp; omega)]
    simp only [Array.toList_setIfInBounds, List.length_cons]
    have hk' : k < c.toList.length := by simp; omega
    rw [List.take_set, List.drop_set_of_lt (by omega)]
    have h3 : (List.take (k + 1) c.toList).set k v = List.take k c.toList ++ [v] := by
      rw [List.take_succ_eq_append_getElem hk']
      have h4 : k = (List.take k c.toList).length := by simp; omega
      conv => lhs; arg 2; rw [h4]
      rw [List.set_append_right _ _ (Nat.le_refl _)]
      simp
    rw [h3, show k + 1 + r.length = k + (r.length + 1) by omega]
    simp

theorem setCell_blk {w : World} {b o : Nat} {c : Array Value} {T : TypeId} (hb : w.heap[b]? = some (.cells c T (0, 0))) (v : Value) :
    w.setCell ⟨b, o, none⟩ v = w.setBlk b (.cells (c.setIfInBounds o v) T (0, 0)) := by
  have hlt : b < w.heap.size := (Array.getElem?_eq_some_iff.1 hb).1
  have hg : w.heap[b] = .cells c T (0, 0) := (Array.getElem?_eq_some_iff.1 hb).2
  unfold World.setCell World.setBlk
  congr 1
  apply Array.ext_getElem?
  intro i
  rw [Array.getElem?_modify, Array.getElem?_setIfInBounds]
  by_cases e : b = i
  · subst e; simp [hlt, hg]
  · simp [e]

theorem setBlk_setBlk (w : World) (b : Nat) (o o' : Obj) : (w.setBlk b o).setBlk b o' = w.setBlk b o' := by
  unfold World.setBlk; simp
theorem setBlk_id {w : World} {b : Nat} {o : Obj} (hb : w.heap[b]? = some o) : w.setBlk b o = w := by
  have hlt : b < w.heap.size := (Array.getElem?_eq_some_iff.1 hb).1
  have hg : w.heap[b] = o := (Array.getElem?_eq_some_iff.1 hb).2
  unfold World.setBlk
  have : w.heap.setIfInBounds b o = w.heap := by
    apply Array.ext_getElem?
    intro i
    rw [Array.getElem?_setIfInBounds]
    by_cases e : b = i
    · subst e; simp [hlt, hg]
    · simp [e]
  rw [this]

theorem run_storeCells {b off : Nat} {T : TypeId} : ∀ (vs : List Value) (w : World) (c : Array Value) (i : Nat), w.heap[b]? = some (.cells c T (0, 0)) →
    vs.all (·.oneCell') = true → off + i + vs.length ≤ c.size →
    (storeCells ⟨b, off, none⟩ vs i).run P w = .ok () (w.setBlk b (.cells (putCells c (off + i) vs) T (0, 0)))
  | [], w, c, i, hb, _, _ => by simp [storeCells, putCells, setBlk_id hb]
  | v :: r, w, c, i, hb, h1, h2 => by
    simp only [List.all_cons, Bool.and_eq_true] at h1
    simp only [List.length_cons] at h2
    have hlt : off + i < c.size := by omega
    have hc : w.cell? ⟨b, off + i, none⟩ = some (c[off + i]'hlt) := by rw [cell_of hb]; exact Array.getElem?_eq_getElem hlt
    have hf : w.frozen? ⟨b, off + i, none⟩ = false := by simp [World.frozen?, hb]
    have hw := setBlk_same (o := .cells (c.setIfInBounds (off + i) v) T (0, 0)) hb
    have hsz : (c.setIfInBounds (off + i) v).size = c.size := by simp
    have ih := run_storeCells (b := b) (off := off) r (w.setBlk b (.cells (c.setIfInBounds (off + i) v) T (0, 0))) (c.setIfInBounds (off + i) v) (i + 1) hw h1.2 (by rw [hsz]; omega)
    simp only [storeCells, Sem.run_bind, add_at, run_store P w _ v _ h1.1, hc, hf, Bool.false_eq_true, if_false, Result.andThen, setCell_blk hb]
    rw [ih, setBlk_setBlk]
    rfl

theorem setAt_rel {l xs : List SV} {vs us : List Value} (hl : SV.Rels env ρ l vs) (hx : SV.Rels env ρ xs us) (j : Nat) :
    SV.Rels env ρ (setAt l j xs) (vs.take j ++ us ++ vs.drop (j + us.length)) := by
  unfold setAt
  rw [hx.length]
  exact ((hl.take j).append hx).append (hl.drop _)

theorem all_one {l : List SV} {vs : List Value} (h1 : l.all SV.one = true) (hr : SV.Rels env ρ l vs) : vs.all (·.oneCell') = true := by
  induction l generalizing vs with
  | nil => simp only [SV.Rels] at hr; subst hr; rfl
  | cons x l ih =>
    simp only [SV.Rels] at hr
    obtain ⟨v, r, rfl, hv, hr⟩ := hr
    simp only [List.all_cons, Bool.and_eq_true] at h1 ⊢
    exact ⟨SV.one_ok h1.1 hv, ih h1.2 hr⟩

/-- An element of the news of a row is written: what the row's values then are. -/
theorem flatten_set {α : Type} {sz : Nat} : ∀ {l : List (List α)} {k : Nat} {x y : List α}, (∀ t ∈ l, t.length = sz) → l[k]? = some x → y.length = sz →
    (l.set k y).flatten = l.flatten.take (k * sz) ++ y ++ l.flatten.drop (k * sz + sz)
  | [], _, _, _, _, h, _ => by simp at h
  | z :: r, 0, x, y, hl, h, hy => by
    have hz : z.length = sz := hl z (List.mem_cons_self ..)
    simp [← hz]
  | z :: r, k + 1, x, y, hl, h, hy => by
    have hz : z.length = sz := hl z (List.mem_cons_self ..)
    have ih := flatten_set (l := r) (k := k) (x := x) (y := y) (fun t ht => hl t (List.mem_cons_of_mem _ ht)) (by simpa using h) hy
    rw [List.set_cons_succ, List.flatten_cons, ih, List.flatten_cons]
    have e1 : (k + 1) * sz = z.length + k * sz := by rw [hz, Nat.succ_mul, Nat.add_comm]
    rw [e1, List.take_append, Nat.add_assoc z.length, List.drop_append]
    simp [List.take_of_length_le, List.drop_of_length_le]

theorem flatten_len {α : Type} {sz : Nat} : ∀ {l : List (List α)}, (∀ t ∈ l, t.length = sz) → l.flatten.length = l.length * sz
  | [], _ => by simp
  | y :: r, h => by
    rw [List.flatten_cons, List.length_append, h y (List.mem_cons_self ..), flatten_len (fun t ht => h t (List.mem_cons_of_mem _ ht)), List.length_cons, Nat.succ_mul, Nat.add_comm]

theorem setAt_length {l xs : List SV} {j : Nat} (h : j + xs.length ≤ l.length) : (setAt l j xs).length = l.length := by
  unfold setAt; simp; omega

theorem storeS_ok (H : HSat env w0 ρ h w) {t : TypeId} {x y : SV} {v u : Value} {b : Unit} (hx : x.Rel env ρ v) (hy : y.Rel env ρ u) (he : (storeS P t x y).Run env h b h') :
    ∃ w', (Instr.storeAt t v u).run P w = .ok () w' ∧ HSat env w0 ρ h' w' := by
  cases x with
  | ptr n off =>
    simp only [SV.Rel] at hx
    obtain ⟨p, hp, rfl⟩ := hx
    simp only [storeS, run_bind, run_inf, run_must, run_getN, run_putN] at he
    obtain ⟨i, _, ⟨hi, rfl⟩, _, _, ⟨hsz, rfl⟩, _, _, ⟨hone, rfl⟩, o, _, ⟨ho, rfl⟩, o', h1, hset, rfl⟩ := he
    have hobj := H.objs n o ho
    have hcells := cells_ok (one_not_val hone) hy
    have h1c := all_one hone hcells
    have hlen : u.cells.size = i.size := by
      have := hcells.length
      have h2 := Nat.eq_of_beq_eq_true hsz
      simp at this
      omega
    cases o with
    | cells T cs =>
      cases off with
      | el i s j => simp [setCells, Prog.Run] at hset
      | c j =>
        simp only [setCells, run_bind, run_must, run_pure] at hset
        obtain ⟨_, _, ⟨hle, rfl⟩, rfl, rfl⟩ := hset
        obtain ⟨q, vs, g1, g2, g3, g4, g5, g6⟩ := hobj
        obtain rfl : q = p := by rw [hp] at g1; exact (Option.some.inj g1).symm
        have hle' : j + u.cells.size ≤ vs.length := by
          have := Nat.le_of_ble_eq_true hle
          have h2 := g5.length
          have h3 := hcells.length
          simp at h3
          omega
        have hrun := run_storeCells (P := P) (off := j) u.cells.toList w vs.toArray 0 g6 h1c (by simpa using hle')
        refine ⟨w.setBlk q.block (.cells (putCells vs.toArray j u.cells.toList) T (0, 0)), ?_, ?_⟩
        · simp only [Instr.storeAt, Instr.sureAddr, storeVar, Sem.run_bind, Sem.run_pure, Result.andThen, s_size hi, hlen, Off.den, g3, Nat.zero_add, ne_eq, not_true_eq_false, if_false]
          exact hrun
        · refine H.update ho rfl hp rfl ⟨q, _, hp, g2, g3, g4, setAt_rel g5 hcells j, ?_⟩
          rw [setBlk_same g6]
          congr 2
          apply Array.ext'
          rw [putCells_list _ _ _ (by simpa using hle')]
    | row T sz len cols tail =>
      cases off with
      | c j => simp [setCells, Prog.Run] at hset
      | el ix s j =>
        simp only [setCells, run_bind, run_must, run_ofOpt, run_pure] at hset
        obtain ⟨_, _, ⟨hss, rfl⟩, a, _, ⟨ha, rfl⟩, bb, _, ⟨hb, rfl⟩, _, _, ⟨hab, rfl⟩, xx, _, ⟨hxx, rfl⟩, _, _, ⟨hle, rfl⟩, rfl, rfl⟩ := hset
        obtain rfl := Nat.eq_of_beq_eq_true hss
        have hab := Nat.le_of_ble_eq_true hab
        have hle := Nat.le_of_ble_eq_true hle
        obtain ⟨q, vs, rest, g1, g2, g3, g4, ⟨base, tl, rfl, r1, r2, r3, r4, r5⟩, g6, g7⟩ := hobj
        obtain rfl : q = p := by rw [hp] at g1; exact (Option.some.inj g1).symm
        have hA := nat?_ok (env := env) ha
        have hB := nat?_ok (env := env) hb
        have hbl : base.length = a * sz := by rw [r1, hA]; simp
        have hxxl : xx.length = sz := r4 _ (List.mem_of_getElem? hxx)
        have hul : u.cells.size = y.cells.length := by have := hcells.length; simpa using this
        have hmul : bb * sz = a * sz + (bb - a) * sz := by rw [← Nat.add_mul]; congr 1; omega
        have htl : (bb - a) * sz + sz ≤ tl.length := by
          rw [r3.length, flatten_len r4]
          have hk : bb - a < tail.length := (List.getElem?_eq_some_iff.1 hxx).1
          calc (bb - a) * sz + sz = (bb - a + 1) * sz := by rw [Nat.succ_mul]
            _ ≤ tail.length * sz := Nat.mul_le_mul_right _ hk
        have hfull : ((base ++ tl) ++ rest).toArray.size = (base ++ tl ++ rest).length := by simp
        have hin : (bb * sz + j) + u.cells.toList.length ≤ (base ++ tl ++ rest).toArray.size := by simp; omega
        have hrun := run_storeCells (P := P) (off := bb * sz + j) u.cells.toList w (base ++ tl ++ rest).toArray 0 g7 h1c (by simpa using hin)
        refine ⟨w.setBlk q.block (.cells (putCells (base ++ tl ++ rest).toArray (bb * sz + j) u.cells.toList) T (0, 0)), ?_, ?_⟩
        · simp only [Instr.storeAt, Instr.sureAddr, storeVar, Sem.run_bind, Sem.run_pure, Result.andThen, s_size hi, hlen, Off.den, hB, Int.toNat_natCast, g3, Nat.zero_add, ne_eq, not_true_eq_false, if_false]
          exact hrun
        · -- the element as it then is
          have hold := flatten_get (k := bb - a) r4 hxx
          have hxrel := ((r3.drop ((bb - a) * sz)).take sz)
          rw [hold] at hxrel
          have hnew := setAt_rel hxrel hcells j
          have hset2 := flatten_set (k := bb - a) (y := setAt xx j y.cells) r4 hxx (by rw [setAt_length hle, hxxl])
          have hrel := ((r3.take ((bb - a) * sz)).append hnew).append (r3.drop ((bb - a) * sz + sz))
          rw [← hset2] at hrel
          refine H.update ho rfl hp rfl ⟨q, base ++ _, rest, hp, g2, g3, g4, ⟨base, _, rfl, r1, r2, hrel, ?_, r5⟩, ?_, ?_⟩
          · intro t ht
            rcases List.mem_or_eq_of_mem_set ht with h | h
            · exact r4 t h
            · rw [h, setAt_length hle, hxxl]
          · rw [← g6]; simp; omega
          · rw [setBlk_same g7]
            congr 2
            apply Array.ext'
            rw [putCells_list _ _ _ hin]
            simp only [List.append_assoc]
            have e1 : bb * sz + j = base.length + ((bb - a) * sz + j) := by omega
            rw [e1, List.take_append, List.take_of_length_le (by omega), Nat.add_sub_cancel_left, Nat.add_assoc, List.drop_append, List.drop_of_length_le (by omega), Nat.add_sub_cancel_left]
            simp only [List.append_assoc, List.nil_append]
            congr 1
            rw [List.take_append_of_le_length (by omega), List.drop_append_of_le_length (by simp; omega), List.take_add, List.append_assoc]
            congr 1
            rw [List.take_take, Nat.min_eq_left (by omega)]
            congr 1
            congr 1
            rw [List.drop_take, List.drop_drop]
            rw [← List.append_assoc]
            congr 1
            have e3 : (bb - a) * sz + j + u.cells.toList.length = (bb - a) * sz + (j + u.cells.toList.length) := by omega
            have e4 : (bb - a) * sz + sz = ((bb - a) * sz + (j + u.cells.toList.length)) + (sz - (j + u.cells.toList.length)) := by simp; omega
            rw [e3, e4, ← List.drop_drop (l := tl) (j := (bb - a) * sz + (j + u.cells.toList.length)), List.take_append_drop]
    | inp => cases off <;> simp [setCells, Prog.Run] at hset
    | map => cases off <;> simp [setCells, Prog.Run] at hset
    | abs => cases off <;> simp [setCells, Prog.Run] at hset
    | chan => cases off <;> simp [setCells, Prog.Run] at hset
    | resv => cases off <;> simp [setCells, Prog.Run] at hset
    | gone => cases off <;> simp [setCells, Prog.Run] at hset
  | _ => exact he.elim

end
end Go.Sx
