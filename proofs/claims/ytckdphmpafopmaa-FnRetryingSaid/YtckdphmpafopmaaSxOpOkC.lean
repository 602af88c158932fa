/-
  SX, PART 5c: what makes new blocks and new values.
-/
import Derived.Test.YtckdphmpafopmaaSxOpOkB
namespace Go.Sx
open Go.RowKit
set_option linter.unusedVariables false
set_option linter.unusedSimpArgs false

section
variable {P : Program} {env : Env} {w0 : Anchor} {w : World} {ρ : PMap} {h h' : Heap} {nm : Nat}

theorem run_newS {o : SObj} {u : Unit} : (newS nm o).Run env h u h' ↔ hget h nm = some .resv ∧ hput h nm o = h' := by
  simp only [newS, run_bind, run_getN]
  constructor
  · rintro ⟨r, _, ⟨h1, rfl⟩, h2⟩
    cases r with
    | resv => exact ⟨h1, by simpa [run_putN] using h2⟩
    | _ => exact h2.elim
  · rintro ⟨h1, h2⟩
    exact ⟨_, _, ⟨h1, rfl⟩, by simpa [run_putN] using h2⟩

theorem set_fresh (p : Pl) : ∀ n, ρ n = none → (ρ.set nm p) n = none ∨ n = nm := fun n hn => by
  by_cases e : n = nm
  · exact .inr e
  · rw [PMap.set_ne e]; exact .inl hn

theorem set_self (p : Pl) : (ρ.set nm p) nm = some p := PMap.set_eq

/-- A new block of known cells. -/
theorem new_cells (H : HSat env w0 ρ h w) (hn : hget h nm = some .resv) {T : TypeId} {cs : List SV} {vs : List Value} (hr : SV.Rels env ρ cs vs) (cap : Nat) :
    ρ.le (ρ.set nm ⟨w.heap.size, 0, cap, false⟩) ∧
    HSat env w0 (ρ.set nm ⟨w.heap.size, 0, cap, false⟩) (hput h nm (.cells T cs)) { w with heap := w.heap.push (.cells vs.toArray T (0, 0)) } := by
  have hle := PMap.le_set (H.objs nm .resv hn) ⟨w.heap.size, 0, cap, false⟩
  refine ⟨hle, H.alloc hn rfl rfl ⟨_, vs, set_self _, ?_, rfl, rfl, hr.mono hle, ?_⟩⟩
  · exact H.below.fresh
  · simp

/-- A new row. -/
theorem new_row (H : HSat env w0 ρ h w) (hn : hget h nm = some .resv) {T : TypeId} {sz : Nat} {len : E} {cols : List Col} {tail : List (List SV)} {vs rest : List Value} {cap : Nat}
    (hr : RowRel env ρ sz len cols tail vs) (hc : (vs ++ rest).length = cap * sz) :
    ρ.le (ρ.set nm ⟨w.heap.size, 0, cap, false⟩) ∧
    HSat env w0 (ρ.set nm ⟨w.heap.size, 0, cap, false⟩) (hput h nm (.row T sz len cols tail)) { w with heap := w.heap.push (.cells (vs ++ rest).toArray T (0, 0)) } := by
  have hle := PMap.le_set (H.objs nm .resv hn) ⟨w.heap.size, 0, cap, false⟩
  refine ⟨hle, H.alloc hn rfl rfl ⟨_, vs, rest, set_self _, ?_, rfl, rfl, hr.mono hle, hc, ?_⟩⟩
  · exact H.below.fresh
  · simp

theorem boxS_ok (H : HSat env w0 ρ h w) {t : TypeId} {x r : SV} {v : Value} (hx : x.Rel env ρ v) (he : (boxS P nm t x).Run env h r h') :
    SemOk P env w0 ρ nm h' w (Instr.box t v) r := by
  simp only [boxS, run_bind, run_must, run_newS, run_pure] at he
  obtain ⟨_, _, ⟨hs, rfl⟩, _, _, ⟨hn, rfl⟩, rfl, rfl⟩ := he
  obtain ⟨hle, H'⟩ := new_cells (T := t) H hn (cells_ok hs hx) 0
  refine ⟨_, _, _, ?_, hle, set_fresh _, H', ⟨_, set_self _, rfl⟩⟩
  simp [Instr.box, newVar, newRow, Off.den]

theorem allocS_ok (H : HSat env w0 ρ h w) {t : TypeId} {r : SV} (he : (do let z ← zeroS P t; boxS P nm t z : Prog SV).Run env h r h') :
    SemOk P env w0 ρ nm h' w (Instr.alloc t true (.tuple #[])) r := by
  simp only [run_bind, run_zeroS] at he
  obtain ⟨z, _, ⟨hz, rfl⟩, he⟩ := he
  obtain ⟨v, h1, h2⟩ := ok_zero (ρ := ρ) (env := env) hz w
  obtain ⟨u, w', ρ', g1, g2⟩ := boxS_ok H h2 he
  refine ⟨u, w', ρ', ?_, g2⟩
  simp only [Instr.alloc, Sem.run_bind, h1, Result.andThen_ok]
  simpa [Instr.box] using g1

/-! ### build -/
inductive PartsRel (env : Env) (ρ : PMap) : List (Nat × SV) → List (Nat × Value) → Prop
  | nil : PartsRel env ρ [] []
  | cons {i : Nat} {x : SV} {v : Value} {l : List (Nat × SV)} {r : List (Nat × Value)} : x.Rel env ρ v → PartsRel env ρ l r → PartsRel env ρ ((i, x) :: l) ((i, v) :: r)

theorem foldl_put : ∀ (vs : List Value) (c : Array Value) (off k : Nat), (vs.zipIdx k).foldl (fun (cs : Array Value) (x : Value × Nat) => cs.setIfInBounds (off + x.2) x.1) c = putCells c (off + k) vs
  | [], _, _, _ => rfl
  | v :: r, c, off, k => by
    simp only [List.zipIdx_cons, List.foldl_cons, putCells]
    rw [foldl_put r, Nat.add_assoc]

theorem fill_step (vs : Array Value) (c : Array Value) (off : Nat) : vs.zipIdx.foldl (fun (cs : Array Value) (x : Value × Nat) => cs.setIfInBounds (off + x.2) x.1) c = putCells c off vs.toList := by
  rw [← Array.foldl_toList, Array.toList_zipIdx, foldl_put]; rfl

theorem cond_true_none {α : Type} {b : Bool} {x : Option α} {y : α} : (bif b then x else none) = some y ↔ b = true ∧ x = some y := by
  cases b <;> simp

theorem fillS_ok {place : Nat → Option (Nat × Nat)} : ∀ {parts : List (Nat × SV)} {vps : List (Nat × Value)} {cs cs' : List SV} {c : Array Value},
    PartsRel env ρ parts vps → SV.Rels env ρ cs c.toList → fillS parts place cs = some cs' → ∃ c', Instr.fill place c vps = some c' ∧ SV.Rels env ρ cs' c'.toList
  | [], _, cs, cs', c, .nil, hc, hf => by simp only [fillS] at hf; injection hf with hf; subst hf; exact ⟨c, rfl, hc⟩
  | (i, x) :: l, _, cs, cs', c, .cons (v := v) (r := r) hx hr, hc, hf => by
    simp only [fillS] at hf
    cases hp : place i with
    | none => rw [hp] at hf; cases hf
    | some q =>
      obtain ⟨off, size⟩ := q
      rw [hp] at hf
      simp only [cond_true_none] at hf
      obtain ⟨hall, hf⟩ := hf
      simp only [Bool.and_eq_true] at hall
      obtain ⟨⟨hshut, h1⟩, h2⟩ := hall
      · have hcells := cells_ok hshut hx
        have hl := hcells.length
        have h1 := Nat.eq_of_beq_eq_true h1
        have h2 := Nat.le_of_ble_eq_true h2
        have hcl := hc.length
        simp at hl hcl
        have hrel := setAt_rel hc hcells off
        have hput := putCells_list v.cells.toList c off (by simp; omega)
        have hrel2 : SV.Rels env ρ (setAt cs off x.cells) (putCells c off v.cells.toList).toList := by rw [hput]; simpa using hrel
        obtain ⟨c', g1, g2⟩ := fillS_ok hr hrel2 hf
        refine ⟨c', ?_, g2⟩
        simp only [Instr.fill, hp]
        rw [if_neg (by simp; omega)]
        rw [← fill_step] at g1
        exact g1

theorem places_ok : ∀ (fs : List Field) {pl : List (Nat × Nat)}, fieldPlaces P fs = some pl → ∀ w : World, (fs.mapM fun f => Prod.mk f.offset <$> sizeOf f.type).run P w = .ok pl w
  | [], pl, hp, w => by simp only [fieldPlaces] at hp; injection hp with hp; subst hp; rfl
  | f :: r, pl, hp, w => by
    simp only [fieldPlaces] at hp
    cases h1 : sizeT P f.type with
    | none => rw [h1] at hp; cases hp
    | some s =>
      cases h2 : fieldPlaces P r with
      | none => rw [h1, h2] at hp; cases hp
      | some l =>
        rw [h1, h2] at hp
        injection hp with hp
        subst hp
        obtain ⟨i, hi, rfl⟩ := sizeT_some h1
        simp [List.mapM_cons, s_size hi, places_ok r h2 w]

theorem buildS_ok (H : HSat env w0 ρ h w) {t : TypeId} {parts : List (Nat × SV)} {vps : Array (Nat × Value)} {r : SV} (hp : PartsRel env ρ parts vps.toList) (he : (buildS P t parts).Run env h r h') :
    SemOk P env w0 ρ nm h' w (Instr.build t vps) r := by
  simp only [buildS, run_bind, run_zeroS, run_und] at he
  obtain ⟨z, _, ⟨⟨iz, zv, hz1, hz2, hz3⟩, rfl⟩, d, _, ⟨hd, rfl⟩, he⟩ := he
  have hzr : z.Rel env ρ zv := ofVal_ok zv hz3
  have hzc := cells_ok (ofVal_shut hz3) hzr
  have hzero := s_zero hz1 hz2 w
  cases d with
  | struct fields =>
    simp only [run_bind, run_ofOpt, run_pure] at he
    obtain ⟨pl, _, ⟨hpl, rfl⟩, cs, _, ⟨hcs, rfl⟩, rfl, rfl⟩ := he
    obtain ⟨c', g1, g2⟩ := fillS_ok hp hzc hcs
    refine SemOk.same (v := .agg c') H ?_ ⟨c'.toList, by simp, g2⟩
    have hpl' := places_ok fields.toList hpl w
    have e : (fun i : Nat => pl.toArray[i]?) = (fun i : Nat => pl[i]?) := by funext i; simp
    simp [Instr.build, hzero, s_und hd, Array.mapM_eq_mapM_toList, hpl', g1]
  | array n elem =>
    simp only [run_bind, run_ofOpt, run_pure] at he
    obtain ⟨s, _, ⟨hs, rfl⟩, cs, _, ⟨hcs, rfl⟩, rfl, rfl⟩ := he
    obtain ⟨i, hi, rfl⟩ := sizeT_some hs
    obtain ⟨c', g1, g2⟩ := fillS_ok hp hzc hcs
    refine SemOk.same (v := .agg c') H ?_ ⟨c'.toList, by simp, g2⟩
    simp [Instr.build, hzero, s_und hd, s_size hi, g1]
  | _ => exact he.elim

theorem repl_rel {cs : List SV} {vs : List Value} (hr : SV.Rels env ρ cs vs) : ∀ n, SV.Rels env ρ (repl n cs).flatten (List.replicate n vs).flatten
  | 0 => rfl
  | n + 1 => by simp only [repl, List.flatten_cons, List.replicate_succ]; exact hr.append (repl_rel hr n)
theorem repl_len {α : Type} {cs : List α} : ∀ n, (repl n cs).length = n
  | 0 => rfl
  | n + 1 => by simp [repl, repl_len n]
theorem repl_mem {α : Type} {a : α} : ∀ {n : Nat} {x : α}, x ∈ repl n a → x = a
  | 0, x, h => by simp [repl] at h
  | n + 1, x, h => by simp only [repl, List.mem_cons] at h; rcases h with h | h; exact h; exact repl_mem h

theorem fillE_ok {sz : Nat} : ∀ {parts : List (Nat × SV)} {vps : List (Nat × Value)} {l l' : List (List SV)} {c : Array Value},
    PartsRel env ρ parts vps → SV.Rels env ρ l.flatten c.toList → (∀ t ∈ l, t.length = sz) → fillE parts sz l = some l' →
    ∃ c', Instr.fill (fun i => some (i * sz, sz)) c vps = some c' ∧ SV.Rels env ρ l'.flatten c'.toList ∧ (∀ t ∈ l', t.length = sz) ∧ l'.length = l.length
  | [], _, l, l', c, .nil, hc, hl, hf => by simp only [fillE] at hf; injection hf with hf; subst hf; exact ⟨c, rfl, hc, hl, rfl⟩
  | (i, x) :: ps, _, l, l', c, .cons (v := v) (r := r) hx hr, hc, hl, hf => by
    simp only [fillE, cond_true_none] at hf
    obtain ⟨hall, hf⟩ := hf
    simp only [Bool.and_eq_true] at hall
    obtain ⟨⟨hshut, h1⟩, h2⟩ := hall
    · have hcells := cells_ok hshut hx
      have hvl := hcells.length
      have h1 := Nat.eq_of_beq_eq_true h1
      have h2 : i < l.length := by simp [Nat.blt] at h2; omega
      have hcl := hc.length
      rw [flatten_len hl] at hcl
      have hin : i * sz + sz ≤ c.size := by
        have : (i + 1) * sz ≤ l.length * sz := Nat.mul_le_mul_right _ h2
        rw [Nat.succ_mul] at this
        simp at hcl
        omega
      have hset := flatten_set (y := x.cells) hl (List.getElem?_eq_getElem h2) h1
      have hrel := ((hc.take (i * sz)).append hcells).append (hc.drop (i * sz + sz))
      rw [← hset] at hrel
      have hvs : v.cells.size = sz := by simp at hvl; omega
      have hput := putCells_list v.cells.toList c (i * sz) (by simp; omega)
      have hrel2 : SV.Rels env ρ (l.set i x.cells).flatten (putCells c (i * sz) v.cells.toList).toList := by rw [hput]; simpa [hvs] using hrel
      have hl2 : ∀ t ∈ l.set i x.cells, t.length = sz := fun t ht => by
        rcases List.mem_or_eq_of_mem_set ht with h | h
        · exact hl t h
        · rw [h]; exact h1
      obtain ⟨c', g1, g2, g3, g4⟩ := fillE_ok hr hrel2 hl2 hf
      refine ⟨c', ?_, g2, g3, by rw [g4]; simp⟩
      simp only [Instr.fill]
      rw [if_neg (by simp; omega)]
      rw [← fill_step] at g1
      exact g1

theorem range_mod (zero : Array Value) (len : Nat) : ((Array.range (len * zero.size)).map (fun i => zero[i % zero.size]!)).toList = (List.replicate len zero.toList).flatten := by
  apply List.ext_getElem?
  intro i
  have hlen : (List.replicate len zero.toList).flatten.length = len * zero.size := by
    rw [flatten_len (sz := zero.size) (fun t ht => by rw [(List.mem_replicate.1 ht).2]; simp)]; simp
  by_cases hi : i < len * zero.size
  · have hz : 0 < zero.size := by
      rcases Nat.eq_zero_or_pos zero.size with h | h
      · rw [h] at hi; simp at hi
      · exact h
    have hk : i / zero.size < len := (Nat.div_lt_iff_lt_mul hz).2 hi
    have hm : i % zero.size < zero.size := Nat.mod_lt _ hz
    have hg := flatten_get (l := List.replicate len zero.toList) (sz := zero.size) (k := i / zero.size) (x := zero.toList) (fun t ht => by rw [(List.mem_replicate.1 ht).2]; simp) (by simp [hk])
    have h2 : (List.take zero.size (List.drop (i / zero.size * zero.size) (List.replicate len zero.toList).flatten))[i % zero.size]? = some zero[i % zero.size] := by rw [hg]; simp [hm]
    obtain ⟨h3, _⟩ := get_drop_take h2
    rw [Nat.mul_comm, Nat.div_add_mod] at h3
    rw [h3]
    simp [hi, hm]
  · rw [List.getElem?_eq_none (by simp; omega), List.getElem?_eq_none (by rw [hlen]; omega)]

theorem buildSliceS_ok (H : HSat env w0 ρ h w) {t : TypeId} {len : Nat} {parts : List (Nat × SV)} {vps : Array (Nat × Value)} {r : SV} (hp : PartsRel env ρ parts vps.toList)
    (he : (buildSliceS P nm t len parts).Run env h r h') : SemOk P env w0 ρ nm h' w (Instr.buildSlice t len vps) r := by
  simp only [buildSliceS, run_bind, run_und] at he
  obtain ⟨d, _, ⟨hd, rfl⟩, he⟩ := he
  cases d with
  | slice elem =>
    simp only [run_bind, run_ofOpt, run_must, run_zeroS, run_newS, run_pure] at he
    obtain ⟨sz, _, ⟨hsz, rfl⟩, _, _, ⟨h0, rfl⟩, _, _, ⟨hbig, rfl⟩, z, _, ⟨⟨iz, zv, hz1, hz2, hz3⟩, rfl⟩, _, _, ⟨hzl, rfl⟩, l, _, ⟨hl, rfl⟩, _, _, ⟨hn, rfl⟩, rfl, rfl⟩ := he
    obtain ⟨i, hi, rfl⟩ := sizeT_some hsz
    have h0 : 0 < i.size := by simp [Nat.blt] at h0; omega
    have hbig := Nat.le_of_ble_eq_true hbig
    have hzl := Nat.eq_of_beq_eq_true hzl
    have hzr : z.Rel env ρ zv := ofVal_ok zv hz3
    have hzc := cells_ok (ofVal_shut hz3) hzr
    have hzs : zv.cells.size = i.size := by have := hzc.length; simp at this; omega
    have hrep := repl_rel hzc len
    have hmod := range_mod zv.cells len
    rw [hzs] at hmod
    obtain ⟨c', g1, g2, g3, g4⟩ := fillE_ok (c := (Array.range (len * i.size)).map (fun k => zv.cells[k % i.size]!)) hp (by rw [hmod]; exact hrep)
      (fun t ht => by rw [repl_mem ht]; exact hzl) hl
    rw [repl_len] at g4
    have hc'l : c'.size = len * i.size := by have := g2.length; rw [flatten_len g3, g4] at this; simpa using this
    have hrow : RowRel env ρ i.size (.il 0) [] l c'.toList := ⟨[], c'.toList, rfl, by simp [E.den, Dv.I], fun k hk => by simp [E.den, Dv.I] at hk, g2, g3, by simp⟩
    obtain ⟨hle, H'⟩ := new_row (T := elem) (rest := []) (cap := len) H hn hrow (by simp [hc'l])
    refine ⟨.slice (some ⟨w.heap.size, 0, none⟩) len len, _, _, ?_, hle, set_fresh _, H', ⟨_, some ⟨w.heap.size, 0, none⟩, set_self _, ?_, ?_, ?_, ?_, Int.le_refl 0⟩⟩
    · by_cases hlz : len = 0
      · subst hlz
        have hr0 : ∀ f : Nat → Value, (Array.range (0 * i.size)).map f = #[] := fun f => by apply Array.eq_empty_of_size_eq_zero; simp
        rw [hr0] at g1
        simp only [Instr.buildSlice, Sem.run_bind, s_und hd, s_size hi, Result.andThen_ok, Nat.zero_mul, if_true]
        rw [if_neg (by decide)]
        have hr1 : ∀ f : Nat → Value, (Array.range 0).map f = #[] := fun f => by apply Array.eq_empty_of_size_eq_zero; simp
        simp only [Sem.run_bind, Result.andThen_ok, Sem.run_pure, hr1, g1, newRow, run_newObj]
        simp
      · have hnz : len * i.size ≠ 0 := Nat.mul_ne_zero hlz (by omega)
        simp only [Instr.buildSlice, Sem.run_bind, s_und hd, s_size hi, Result.andThen_ok, if_neg hnz]
        rw [if_neg (by omega)]
        simp only [Sem.run_bind, s_zero hz1 hz2, Result.andThen_ok, Sem.run_pure, hzs, g1, newRow, run_newObj]
        simp
    · simp [E.den, Dv.I]
    · simp
    · simp [E.den, Dv.I]
    · simp [E.den, Dv.I]
  | _ => exact he.elim

end
end Go.Sx
