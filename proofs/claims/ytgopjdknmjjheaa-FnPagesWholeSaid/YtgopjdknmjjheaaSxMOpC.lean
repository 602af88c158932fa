/-
  SX, PART 5g: every operation.
-/
import Derived.Test.YtgopjdknmjjheaaSxMOpB
namespace Go.Sx
open Go.RowKit
set_option linter.unusedVariables false
set_option linter.unusedSimpArgs false

section
variable {P : Program} {env : Env} {w0 : Anchor} {w : World} {ρ : PMap} {h h' : Heap} {nm : Nat}

theorem run_getObj {r : Nat} {es : Array MapEntry} {c : Nat} (h : w.heap[r]? = some (.map es c)) : (getObj r).run P w = .ok (.map es c) w := by simp [getObj, Sem.run, h]
theorem run_setObj {r : Nat} {o : Obj} {es : Array MapEntry} {c : Nat} (h : w.heap[r]? = some (.map es c)) : (setObj r o).run P w = .ok () (w.setBlk r o) := by
  obtain ⟨hlt, h2⟩ := Array.getElem?_eq_some_iff.1 h
  simp [setObj, Sem.run, World.setBlk, Array.setIfInBounds, hlt, h2]

theorem keyEq_false {kk : KK} {a b : Value} (ha : kk.ok a) (hb : kk.ok b) : keyEq a b = false ↔ a ≠ b := by
  have := keyEq_iff ha hb
  cases hk : keyEq a b with
  | true => simp [this.1 hk]
  | false =>
    simp only [true_iff]
    intro e
    rw [this.2 e] at hk; cases hk

theorem sameNow_ok {d : TypeDesc} {kk : KK} (hk : kkOf d = some kk) {a b : Value} (ha : kk.ok a) (hb : kk.ok b) : Instr.sameNow d a b = some (keyEq b a) := by
  cases d <;> simp only [kkOf] at hk <;> first | (cases hk; done) | skip
  all_goals injection hk with hk; subst hk
  · obtain ⟨x, rfl⟩ := ha; obtain ⟨y, rfl⟩ := hb
    simp [Instr.sameNow, keyEq, Bool.beq_comm]
  · obtain ⟨x, rfl⟩ := ha; obtain ⟨y, rfl⟩ := hb
    simp [Instr.sameNow, keyEq, Bool.beq_comm, eq_comm]
  · obtain ⟨x, rfl⟩ := ha; obtain ⟨y, rfl⟩ := hb
    simp only [Instr.sameNow, keyEq, bytes_beq]
    rw [Bool.beq_comm]

/-- What the model's search finds. -/
theorem findNow_ok {d : TypeDesc} {kk : KK} (hk : kkOf d = some kk) {key : Value} (ho : kk.ok key) : ∀ (es : List MapEntry) (i : Nat), (∀ e ∈ es, kk.ok e.key) →
    (Instr.findNow d key es i = some none ∧ mlook es key = none ∧ ∀ e ∈ es, e.key ≠ key) ∨
    (∃ j e, es[j]? = some e ∧ e.key = key ∧ Instr.findNow d key es i = some (some (i + j, e.val)) ∧ mlook es key = some e.val)
  | [], i, _ => .inl ⟨rfl, rfl, fun e he => by cases he⟩
  | e :: es, i, h => by
    have he := h e (List.mem_cons_self ..)
    unfold Instr.findNow mlook
    rw [sameNow_ok hk ho he]
    cases hb : keyEq e.key key with
    | true => exact .inr ⟨0, e, rfl, (keyEq_iff he ho).1 hb, rfl, rfl⟩
    | false =>
      have hne := (keyEq_false he ho).1 hb
      rcases findNow_ok hk ho es (i + 1) (fun x hx => h x (List.mem_cons_of_mem _ hx)) with ⟨h1, h2, h3⟩ | ⟨j, x, h1, h2, h3, h4⟩
      · exact .inl ⟨h1, h2, fun x hx => by rcases List.mem_cons.1 hx with rfl | hx; exact hne; exact h3 x hx⟩
      · refine .inr ⟨j + 1, x, by simpa using h1, h2, ?_, h4⟩
        rw [show i + (j + 1) = i + 1 + j by omega]
        exact h3

theorem s_findKey {kt : TypeId} {d : TypeDesc} (hd : P.underlying kt = some d) {key : Value} {es : List MapEntry} {r : Option (Nat × Value)} (h : Instr.findNow d key es 0 = some r) : (Instr.findKey kt key es).run P w = .ok r w := by
  simp [Instr.findKey, s_und hd, h]
theorem s_checkKey {kt : TypeId} {d : TypeDesc} {kk : KK} (hd : P.underlying kt = some d) (hk : kkOf d = some kk) (b : Bool) (n : Nat) (key : Value) : (Instr.checkKey b (n + 1) kt key).run P w = .ok () w := by
  cases d <;> simp only [kkOf] at hk <;> first | (cases hk; done) | skip
  all_goals simp [Instr.checkKey, s_und hd]

theorem keyOk_ok {kk : KK} {x : SV} {v : Value} (h : keyOk kk x = true) (hx : x.Rel env ρ v) : kk.ok v := by
  cases kk <;> cases x <;> simp only [keyOk] at h <;> try (cases h; done)
  all_goals simp only [SV.Rel] at hx
  · rw [kSame_eq h]; exact ⟨_, hx⟩
  · exact ⟨_, hx⟩
  · exact ⟨_, hx⟩

theorem keyE_ok {x y : SV} {e : E} (h : keyE x y = some e) {a b : Value} (hx : x.Rel env ρ a) (hy : y.Rel env ρ b) : (e.den env).B = keyEq a b := by
  cases x <;> cases y <;> simp only [keyE] at h <;> try (cases h; done)
  all_goals simp only [SV.Rel] at hx hy
  all_goals injection h with h; subst h; subst hx; subst hy
  all_goals rw [mk2_den]; rfl

/-- What the search among the known keys finds. -/
theorem findS_ok {kk : KK} {key : SV} {kv0 : Value} (hkey : key.Rel env ρ kv0) : ∀ {known : List (SV × KV)} {kv : List (Value × Option Value)} {i : Nat} {r : Option Nat} {h h' : Heap}, KnownRel env ρ kk known kv →
    (findS key known i).Run env h r h' → h = h' ∧ (r = none ∧ (∀ q ∈ kv, keyEq q.1 kv0 = false) ∨ ∃ j k x, r = some (i + j) ∧ known[j]? = some (k, x) ∧ ∃ a b, kv[j]? = some (a, b) ∧ k.Rel env ρ a ∧ keyEq a kv0 = true ∧ (∀ m q, m < j → kv[m]? = some q → keyEq q.1 kv0 = false) ∧
      x.Rel env ρ b)
  | [], kv, i, r, h, h', hk, he => by
    simp only [findS, run_ret] at he
    obtain ⟨rfl, rfl⟩ := he
    simp only [KnownRel] at hk
    subst hk
    exact ⟨rfl, .inl ⟨rfl, fun q hq => by cases hq⟩⟩
  | (k, x) :: l, kv, i, r, h, h', hk, he => by
    obtain ⟨a, b, kr, rfl, hok, hka, hxb, hrest⟩ := hk
    simp only [findS, run_bind, run_ofOpt, run_decE] at he
    obtain ⟨e, _, ⟨hke, rfl⟩, t, _, ⟨ht, rfl⟩, he⟩ := he
    have hE := keyE_ok hke hka hkey
    rw [ht] at hE
    cases t with
    | true =>
      simp only [run_pure] at he
      obtain ⟨rfl, rfl⟩ := he
      exact ⟨rfl, .inr ⟨0, k, x, rfl, rfl, a, b, rfl, hka, hE.symm, fun m q hm => by omega, hxb⟩⟩
    | false =>
      obtain ⟨e1, h2⟩ := findS_ok hkey hrest he
      subst e1
      refine ⟨rfl, ?_⟩
      rcases h2 with ⟨h3, h4⟩ | ⟨j, k', x', h3, h4, a', b', h5, h6, h7, h8, h9⟩
      · exact .inl ⟨h3, fun q hq => by rcases List.mem_cons.1 hq with rfl | hq; exact hE.symm; exact h4 q hq⟩
      · refine .inr ⟨j + 1, k', x', by rw [h3]; congr 1; omega, by simpa using h4, a', b', by simpa using h5, h6, h7, fun m q hm hq => ?_, h9⟩
        cases m with
        | zero => simp at hq; subst hq; exact hE.symm
        | succ m => exact h8 m q (by omega) (by simpa using hq)

theorem knowS_ok {x : KV} {o : Option Value} (hx : x.Rel env ρ o) {q : Option SV} {h h' : Heap} (he : (knowS x).Run env h q h') : h = h' ∧ ((∃ y v, q = some y ∧ o = some v ∧ y.Rel env ρ v) ∨ (q = none ∧ o = none)) := by
  cases x with
  | no => simp only [knowS, run_ret] at he; exact ⟨he.2, .inr ⟨he.1.symm, hx⟩⟩
  | yes x => simp only [knowS, run_ret] at he; obtain ⟨v, e, r⟩ := hx; exact ⟨he.2, .inl ⟨x, v, he.1.symm, e, r⟩⟩
  | may b x =>
    simp only [knowS, run_bind, run_decE] at he
    obtain ⟨t, _, ⟨ht, rfl⟩, he⟩ := he
    simp only [KV.Rel] at hx
    rw [ht] at hx
    cases t with
    | true => simp only [run_pure] at he; obtain ⟨v, e, r⟩ := hx; exact ⟨he.2, .inl ⟨x, v, he.1.symm, e, r⟩⟩
    | false => simp only [run_pure] at he; exact ⟨he.2, .inr ⟨he.1.symm, hx⟩⟩

theorem cont_miss : ∀ {kv : List (Value × Option Value)} {r : Value → Option Value} {k : Value}, (∀ q ∈ kv, keyEq q.1 k = false) → cont kv r k = r k
  | [], r, k, _ => rfl
  | (a, b) :: l, r, k, h => by
    unfold cont
    rw [h (a, b) (List.mem_cons_self ..)]
    exact cont_miss fun q hq => h q (List.mem_cons_of_mem _ hq)
theorem cont_hit : ∀ {kv : List (Value × Option Value)} {r : Value → Option Value} {k a : Value} {b : Option Value} {j : Nat}, kv[j]? = some (a, b) → keyEq a k = true → (∀ m q, m < j → kv[m]? = some q → keyEq q.1 k = false) → cont kv r k = b
  | [], _, _, _, _, _, h, _, _ => by simp at h
  | (a', b') :: l, r, k, a, b, 0, h, hk, _ => by
    simp at h; obtain ⟨rfl, rfl⟩ := h
    unfold cont; rw [hk]; rfl
  | (a', b') :: l, r, k, a, b, j + 1, h, hk, hm => by
    unfold cont
    rw [hm 0 (a', b') (by omega) rfl]
    exact cont_hit (by simpa using h) hk fun m q hmj hq => hm (m + 1) q (by omega) (by simpa using hq)
/-- One key is put, or struck. -/
theorem cont_set {kk : KK} : ∀ {kv : List (Value × Option Value)} {r : Value → Option Value} {k0 k a : Value} {b b' : Option Value} {j : Nat}, kk.ok k0 → kk.ok k → (∀ q ∈ kv, kk.ok q.1) → kv[j]? = some (a, b) → keyEq a k0 = true →
    (∀ m q, m < j → kv[m]? = some q → keyEq q.1 k0 = false) → cont (kv.set j (a, b')) r k = cond (keyEq k0 k) b' (cont kv r k)
  | [], _, _, _, _, _, _, _, _, _, _, h, _, _ => by simp at h
  | (a', b0) :: l, r, k0, k, a, b, b', 0, ho, hok, hall, h, hk, _ => by
    simp at h; obtain ⟨rfl, rfl⟩ := h
    have e : a' = k0 := (keyEq_iff (hall _ (List.mem_cons_self ..)) ho).1 hk
    subst e
    simp only [List.set_cons_zero, cont]
    cases keyEq a' k <;> rfl
  | (a', b0) :: l, r, k0, k, a, b, b', j + 1, ho, hok, hall, h, hk, hm => by
    have ha' := hall _ (List.mem_cons_self ..)
    have hne := (keyEq_false ha' ho).1 (hm 0 (a', b0) (by omega) rfl)
    have ih := cont_set (kv := l) (r := r) (k := k) (b' := b') ho hok (fun q hq => hall q (List.mem_cons_of_mem _ hq)) (by simpa using h) hk fun m q hmj hq => hm (m + 1) q (by omega) (by simpa using hq)
    simp only [List.set_cons_succ, cont, ih]
    cases h1 : keyEq a' k with
    | false => rfl
    | true =>
      have : a' = k := (keyEq_iff ha' hok).1 h1
      subst this
      have : keyEq k0 a' = false := (keyEq_false ho ha').2 (Ne.symm hne)
      rw [this]; rfl
theorem cont_snoc {kv : List (Value × Option Value)} {r : Value → Option Value} {k0 k : Value} {b' : Option Value} (hmiss : ∀ q ∈ kv, keyEq q.1 k0 = false) {kk : KK} (ho : kk.ok k0) (hok : kk.ok k) (hall : ∀ q ∈ kv, kk.ok q.1) :
    cont (kv ++ [(k0, b')]) r k = cond (keyEq k0 k) b' (cont kv r k) := by
  induction kv with
  | nil => rfl
  | cons q l ih =>
    obtain ⟨a, b⟩ := q
    have ih := ih (fun q hq => hmiss q (List.mem_cons_of_mem _ hq)) (fun q hq => hall q (List.mem_cons_of_mem _ hq))
    simp only [List.cons_append, cont, ih]
    cases h1 : keyEq a k with
    | false => rfl
    | true =>
      have ha := hall _ (List.mem_cons_self ..)
      have hm := hmiss _ (List.mem_cons_self ..)
      have : a = k := (keyEq_iff ha hok).1 h1
      subst this
      have : keyEq k0 a = false := (keyEq_false ho ha).2 (Ne.symm ((keyEq_false ha ho).1 hm))
      rw [this]; rfl

theorem KnownRel.keys {kk : KK} : ∀ {l : List (SV × KV)} {kv : List (Value × Option Value)}, KnownRel env ρ kk l kv → ∀ q ∈ kv, kk.ok q.1
  | [], kv, h, q, hq => by simp only [KnownRel] at h; subst h; cases hq
  | (k, x) :: l, kv, ⟨a, b, r, e, h1, h2, h3, h4⟩, q, hq => by
    subst e
    rcases List.mem_cons.1 hq with rfl | hq
    · exact h1
    · exact KnownRel.keys h4 q hq
theorem KnownRel.set {kk : KK} {x' : KV} {b' : Option Value} (hx : KV.Rel env ρ x' b') : ∀ {l : List (SV × KV)} {kv : List (Value × Option Value)} {j : Nat} {k : SV} {x : KV} {a : Value} {b : Option Value},
    KnownRel env ρ kk l kv → l[j]? = some (k, x) → kv[j]? = some (a, b) → KnownRel env ρ kk (l.set j (k, x')) (kv.set j (a, b'))
  | [], kv, j, _, _, _, _, h, h1, _ => by simp at h1
  | (k0, x0) :: l, kv, j, k, x, a, b, ⟨a0, b0, r, e, h1, h2, h3, h4⟩, hl, hv => by
    subst e
    cases j with
    | zero =>
      simp at hl hv
      obtain ⟨rfl, rfl⟩ := hl
      obtain ⟨rfl, rfl⟩ := hv
      exact ⟨_, _, _, rfl, h1, h2, hx, h4⟩
    | succ j => exact ⟨_, _, _, rfl, h1, h2, h3, KnownRel.set hx h4 (by simpa using hl) (by simpa using hv)⟩
theorem KnownRel.snoc {kk : KK} {k : SV} {a : Value} {x' : KV} {b' : Option Value} (hk : kk.ok a) (hka : k.Rel env ρ a) (hx : KV.Rel env ρ x' b') : ∀ {l : List (SV × KV)} {kv : List (Value × Option Value)},
    KnownRel env ρ kk l kv → KnownRel env ρ kk (l ++ [(k, x')]) (kv ++ [(a, b')])
  | [], kv, h => by simp only [KnownRel] at h; subst h; exact ⟨_, _, _, rfl, hk, hka, hx, rfl⟩
  | (k0, x0) :: l, kv, ⟨a0, b0, r, e, h1, h2, h3, h4⟩ => by subst e; exact ⟨_, _, _, rfl, h1, h2, h3, KnownRel.snoc hk hka hx h4⟩

theorem mapD_run {t : TypeId} {d : KK × TypeId} : (mapD P t).Run env h d h' ↔ (∃ kt kd, P.underlying t = some (.map kt d.2) ∧ P.underlying kt = some kd ∧ kkOf kd = some d.1) ∧ h = h' := by
  obtain ⟨kk, el⟩ := d
  simp only [mapD, run_bind, run_und]
  constructor
  · rintro ⟨u, _, ⟨hu, rfl⟩, h2⟩
    split at h2
    · rename_i kt el'
      simp only [run_bind, run_und, run_ofOpt, run_pure] at h2
      obtain ⟨kd, _, ⟨hd, rfl⟩, k2, _, ⟨hk, rfl⟩, e, rfl⟩ := h2
      injection e with e1 e2
      subst e1; subst e2
      exact ⟨⟨kt, kd, hu, hd, hk⟩, rfl⟩
    · exact h2.elim
  · rintro ⟨⟨kt, kd, hu, hd, hk⟩, rfl⟩
    refine ⟨_, _, ⟨hu, rfl⟩, ?_⟩
    simp only [run_bind, run_und, run_ofOpt, run_pure]
    exact ⟨kd, _, ⟨hd, rfl⟩, kk, _, ⟨hk, rfl⟩, rfl, rfl⟩

theorem lookupS_ok (H : HSat env w0 ρ h w) {t : TypeId} {x key r : SV} {v u : Value} {ok : Bool} (hx : x.Rel env ρ v) (hk : key.Rel env ρ u) (he : (lookupS P t x key ok).Run env h r h') :
    SemOk P env w0 ρ nm h' w (Instr.lookup t v u ok) r := by
  simp only [lookupS, run_bind, mapD_run, run_must, run_zeroS] at he
  obtain ⟨⟨kk, el⟩, _, ⟨⟨kt, kd, hu, hd, hkk⟩, rfl⟩, _, _, ⟨hko, rfl⟩, z, _, ⟨hz, rfl⟩, he⟩ := he
  simp only at hu hkk hko hz he
  have huk : kk.ok u := keyOk_ok hko hk
  obtain ⟨zv, hzr, hzx⟩ := ok_zero (ρ := ρ) (env := env) hz w
  have give : ∀ {y : SV} {b : Bool} {yv : Value} {hh : Heap}, y.Rel env ρ yv → (cond ok (Prog.ret (SV.tup [y, .bool (.bl b)])) (Prog.ret y)).Run env hh r h' → hh = h' ∧ r.Rel env ρ (if ok = true then .tuple #[yv, .bool b] else yv) := by
    intro y b yv hh hy hr
    cases ok with
    | true => simp only [cond_true, run_ret] at hr; obtain ⟨rfl, rfl⟩ := hr; exact ⟨rfl, [yv, .bool b], rfl, _, _, rfl, hy, _, _, rfl, rfl, rfl⟩
    | false => simp only [cond_false, run_ret] at hr; obtain ⟨rfl, rfl⟩ := hr; exact ⟨rfl, hy⟩
  split at he
  · obtain ⟨rfl, hr⟩ := give hzx he
    simp only [SV.Rel] at hx; subst hx
    refine SemOk.same H ?_ hr
    simp [Instr.lookup, s_und hu, s_checkKey hd hkk, s_findKey hd (show Instr.findNow kd u [] 0 = some none from rfl), hzr]
  · rename_i n
    simp only [run_bind, run_getN] at he
    obtain ⟨o, _, ⟨ho, rfl⟩, he⟩ := he
    simp only [SV.Rel] at hx
    obtain ⟨p, hp, rfl⟩ := hx
    split at he
    · rename_i m ix kk' sz known
      simp only [run_bind, run_must] at he
      obtain ⟨_, _, ⟨hkk', rfl⟩, i, _, hf, he⟩ := he
      have := kkSame_eq hkk'; subst this
      obtain ⟨q, es, clk, kv, h1, h2, h3, h4, h5, h6, h7, h8, h9⟩ := H.objs n _ ho
      rw [hp] at h1; injection h1 with h1; subst h1
      obtain ⟨rfl, hfs⟩ := findS_ok hk h8 hf
      have hlook := h9 u huk
      have main : ∀ {val : Value} {b : Bool}, (b = true ∧ cont kv (res env m (ix.den env).I) u = some val ∨ b = false ∧ val = zv ∧ cont kv (res env m (ix.den env).I) u = none) →
          (Instr.lookup t (.map (some p.block)) u ok).run P w = .ok (if ok = true then .tuple #[val, .bool b] else val) w := by
        intro val b hc
        rcases findNow_ok hkk huk es.toList 0 h6.keys with ⟨g1, g2, _⟩ | ⟨j, e, g1, g2, g3, g4⟩
        · rcases hc with ⟨_, hc⟩ | ⟨rfl, rfl, _⟩
          · rw [← hlook, g2] at hc; cases hc
          · simp only [Instr.lookup, Sem.run_bind, s_und hu, Result.andThen_ok, run_getObj h5, Sem.run_pure, s_checkKey hd hkk, s_findKey hd g1, hzr]
        · rcases hc with ⟨rfl, hc⟩ | ⟨_, _, hc⟩
          · rw [← hlook, g4] at hc
            injection hc with hc; subst hc
            simp only [Instr.lookup, Sem.run_bind, s_und hu, Result.andThen_ok, run_getObj h5, Sem.run_pure, s_checkKey hd hkk, s_findKey hd g3]
          · rw [← hlook, g4] at hc; cases hc
      rcases hfs with ⟨rfl, hmiss⟩ | ⟨j, k, y, rfl, hkn, a, b, hkv, hka, hke, hm, hyb⟩
      · simp only [run_bind, run_must] at he
        obtain ⟨_, _, ⟨hm0, rfl⟩, he⟩ := he
        have hm0 := Nat.eq_of_beq_eq_true hm0
        subst hm0
        obtain ⟨rfl, hr⟩ := give hzx he
        refine SemOk.same H (main (.inr ⟨rfl, rfl, ?_⟩)) hr
        rw [cont_miss hmiss]; rfl
      · simp only [run_bind, run_ofOpt] at he
        obtain ⟨y', _, ⟨hy', rfl⟩, q, _, hq, he⟩ := he
        rw [Nat.zero_add, hkn] at hy'
        injection hy' with hy'; subst hy'
        have hc := cont_hit (r := res env m (ix.den env).I) hkv hke hm
        obtain ⟨rfl, hkw⟩ := knowS_ok hyb hq
        rcases hkw with ⟨y1, yv, rfl, rfl, hy1⟩ | ⟨rfl, rfl⟩
        · obtain ⟨rfl, hr⟩ := give hy1 he
          exact SemOk.same H (main (.inl ⟨rfl, hc⟩)) hr
        · obtain ⟨rfl, hr⟩ := give hzx he
          exact SemOk.same H (main (.inr ⟨rfl, rfl, hc⟩)) hr
    · exact he.elim
  · exact he.elim

/-! ### entries that are put or struck -/
theorem mlook_modify {kk : KK} {clk : Nat} {es : List MapEntry} (hm : MapOk kk es clk) {j : Nat} {e e' : MapEntry} (hj : es[j]? = some e) (hkey : e'.key = e.key) {k : Value} (hk : kk.ok k) :
    mlook (es.set j e') k = cond (keyEq e.key k) (some e'.val) (mlook es k) := by
  induction es generalizing j with
  | nil => simp at hj
  | cons x l ih =>
    have hx := hm.keys x (List.mem_cons_self ..)
    cases j with
    | zero =>
      simp at hj; subst hj
      simp only [List.set_cons_zero, mlook, hkey]
      cases keyEq x.key k <;> rfl
    | succ j =>
      have hj' : l[j]? = some e := by simpa using hj
      have hml : MapOk kk l clk := ⟨fun e he => hm.keys e (List.mem_cons_of_mem _ he), (List.pairwise_cons.1 hm.nodup).2, fun e he => hm.born e (List.mem_cons_of_mem _ he), (List.pairwise_cons.1 hm.apart).2⟩
      have hme := List.mem_of_getElem? hj'
      have hne := (List.pairwise_cons.1 hm.nodup).1 e hme
      simp only [List.set_cons_succ, mlook, ih hml hj']
      cases h1 : keyEq x.key k with
      | false => rfl
      | true =>
        have : x.key = k := (keyEq_iff hx hk).1 h1
        have he := hm.keys e (List.mem_cons_of_mem _ hme)
        have : keyEq e.key k = false := (keyEq_false he hk).2 (fun e' => hne (this.trans e'.symm))
        rw [this]; rfl
theorem mapOk_modify {kk : KK} {clk : Nat} {es : List MapEntry} (hm : MapOk kk es clk) {j : Nat} {e e' : MapEntry} (hj : es[j]? = some e) (hkey : e'.key = e.key) (hborn : e'.born = e.born) : MapOk kk (es.set j e') clk := by
  refine ⟨fun x hx => ?_, ?_, fun x hx => ?_, ?_⟩
  · rcases List.mem_or_eq_of_mem_set hx with h | rfl
    · exact hm.keys x h
    · rw [hkey]; exact hm.keys e (List.mem_of_getElem? hj)
  · have h1 : (es.set j e').map (·.key) = es.map (·.key) := by
      rw [List.map_set]
      apply List.ext_getElem?
      intro i
      rw [List.getElem?_set]
      by_cases e1 : j = i
      · subst e1
        rw [if_pos rfl, hkey]
        split
        · rw [List.getElem?_map, hj]; rfl
        · rename_i hn; rw [List.getElem?_eq_none (by simpa using hn)]
      · rw [if_neg e1]
    have h2 : (es.map (·.key)).Pairwise (· ≠ ·) := List.pairwise_map.2 hm.nodup
    rw [← h1] at h2
    exact List.pairwise_map.1 h2
  · rcases List.mem_or_eq_of_mem_set hx with h | rfl
    · exact hm.born x h
    · rw [hborn]; exact hm.born e (List.mem_of_getElem? hj)
  · have h1 : (es.set j e').map (·.born) = es.map (·.born) := by
      rw [List.map_set]
      apply List.ext_getElem?
      intro i
      rw [List.getElem?_set]
      by_cases e1 : j = i
      · subst e1
        rw [if_pos rfl, hborn]
        split
        · rw [List.getElem?_map, hj]; rfl
        · rename_i hn; rw [List.getElem?_eq_none (by simpa using hn)]
      · rw [if_neg e1]
    have h2 : (es.map (·.born)).Pairwise (· ≠ ·) := List.pairwise_map.2 hm.apart
    rw [← h1] at h2
    exact List.pairwise_map.1 h2
theorem mlook_erase {kk : KK} {clk : Nat} {es : List MapEntry} (hm : MapOk kk es clk) {j : Nat} {e : MapEntry} (hj : es[j]? = some e) {k : Value} (hk : kk.ok k) :
    mlook (es.eraseIdx j) k = cond (keyEq e.key k) none (mlook es k) := by
  induction es generalizing j with
  | nil => simp at hj
  | cons x l ih =>
    have hx := hm.keys x (List.mem_cons_self ..)
    have hml : MapOk kk l clk := ⟨fun e he => hm.keys e (List.mem_cons_of_mem _ he), (List.pairwise_cons.1 hm.nodup).2, fun e he => hm.born e (List.mem_cons_of_mem _ he), (List.pairwise_cons.1 hm.apart).2⟩
    cases j with
    | zero =>
      simp at hj; subst hj
      simp only [List.eraseIdx_zero, List.tail_cons, mlook]
      cases h1 : keyEq x.key k with
      | false => rfl
      | true =>
        have hxk : x.key = k := (keyEq_iff hx hk).1 h1
        show mlook l k = none
        have : ∀ (l : List MapEntry), (∀ e ∈ l, x.key ≠ e.key) → (∀ e ∈ l, kk.ok e.key) → mlook l k = none := by
          intro l
          induction l with
          | nil => intros; rfl
          | cons y l ih =>
            intro h1 h2
            unfold mlook
            rw [(keyEq_false (h2 y (List.mem_cons_self ..)) hk).2 (fun e => h1 y (List.mem_cons_self ..) (hxk.trans e.symm))]
            exact ih (fun e he => h1 e (List.mem_cons_of_mem _ he)) (fun e he => h2 e (List.mem_cons_of_mem _ he))
        exact this l (List.pairwise_cons.1 hm.nodup).1 hml.keys
    | succ j =>
      have hj' : l[j]? = some e := by simpa using hj
      have hme := List.mem_of_getElem? hj'
      have hne := (List.pairwise_cons.1 hm.nodup).1 e hme
      simp only [List.eraseIdx_cons_succ, mlook, ih hml hj']
      cases h1 : keyEq x.key k with
      | false => rfl
      | true =>
        have hxk : x.key = k := (keyEq_iff hx hk).1 h1
        have he := hm.keys e (List.mem_cons_of_mem _ hme)
        have : keyEq e.key k = false := (keyEq_false he hk).2 (fun e' => hne (hxk.trans e'.symm))
        rw [this]; rfl
theorem mapOk_erase {kk : KK} {clk : Nat} {es : List MapEntry} (hm : MapOk kk es clk) (j : Nat) : MapOk kk (es.eraseIdx j) clk :=
  ⟨fun x hx => hm.keys x (List.mem_of_mem_eraseIdx hx), hm.nodup.sublist (List.eraseIdx_sublist ..), fun x hx => hm.born x (List.mem_of_mem_eraseIdx hx), hm.apart.sublist (List.eraseIdx_sublist ..)⟩
theorem mlook_push {kk : KK} {clk : Nat} {es : List MapEntry} (hm : MapOk kk es clk) {e : MapEntry} (he : kk.ok e.key) (hno : ∀ x ∈ es, x.key ≠ e.key) {k : Value} (hk : kk.ok k) : mlook (es ++ [e]) k = cond (keyEq e.key k) (some e.val) (mlook es k) := by
  induction es with
  | nil => rfl
  | cons x l ih =>
    have hx := hm.keys x (List.mem_cons_self ..)
    have hml : MapOk kk l clk := ⟨fun e he => hm.keys e (List.mem_cons_of_mem _ he), (List.pairwise_cons.1 hm.nodup).2, fun e he => hm.born e (List.mem_cons_of_mem _ he), (List.pairwise_cons.1 hm.apart).2⟩
    simp only [List.cons_append, mlook, ih hml fun y hy => hno y (List.mem_cons_of_mem _ hy)]
    cases h1 : keyEq x.key k with
    | false => rfl
    | true =>
      have hxk : x.key = k := (keyEq_iff hx hk).1 h1
      have : keyEq e.key k = false := (keyEq_false he hk).2 (fun e' => hno x (List.mem_cons_self ..) (hxk.trans e'.symm))
      rw [this]; rfl
theorem mapOk_push {kk : KK} {clk : Nat} {es : List MapEntry} (hm : MapOk kk es clk) {e : MapEntry} (he : kk.ok e.key) (hno : ∀ x ∈ es, x.key ≠ e.key) (hb : e.born = clk) : MapOk kk (es ++ [e]) (clk + 1) := by
  refine ⟨fun x hx => ?_, ?_, fun x hx => ?_, ?_⟩
  · rcases List.mem_append.1 hx with h | h
    · exact hm.keys x h
    · rw [List.mem_singleton.1 h]; exact he
  · refine List.pairwise_append.2 ⟨hm.nodup, List.pairwise_singleton .., fun a ha b hb => ?_⟩
    rw [List.mem_singleton.1 hb]
    exact hno a ha
  · rcases List.mem_append.1 hx with h | h
    · have := hm.born x h; omega
    · rw [List.mem_singleton.1 h, hb]; omega
  · refine List.pairwise_append.2 ⟨hm.apart, List.pairwise_singleton .., fun a ha b hb' => ?_⟩
    rw [List.mem_singleton.1 hb', hb]
    have := hm.born a ha
    omega

theorem keyStays {a : Value} {kk : KK} (h : kk.ok a) : (Instr.keyThatStays a a).run P w = .ok a w := by
  cases kk with
  | int k => obtain ⟨x, rfl⟩ := h; simp [Instr.keyThatStays, Instr.sameBits]
  | bool => obtain ⟨x, rfl⟩ := h; simp [Instr.keyThatStays, Instr.sameBits]
  | str => obtain ⟨x, rfl⟩ := h; simp [Instr.keyThatStays, Instr.sameBits, bytes_beq]

theorem updateS_ok (H : HSat env w0 ρ h w) {t : TypeId} {x key y : SV} {v u yv : Value} {r : Unit} (hx : x.Rel env ρ v) (hk : key.Rel env ρ u) (hy : y.Rel env ρ yv) (he : (updateS P t x key y).Run env h r h') :
    ∃ w', (Instr.mapUpdate t v u yv).run P w = .ok () w' ∧ HSat env w0 ρ h' w' := by
  simp only [updateS, run_bind, mapD_run, run_must] at he
  obtain ⟨⟨kk, el⟩, _, ⟨⟨kt, kd, hu, hd, hkk⟩, rfl⟩, _, _, ⟨hko, rfl⟩, he⟩ := he
  simp only at hu hkk hko he
  have huk : kk.ok u := keyOk_ok hko hk
  split at he
  · rename_i n
    simp only [run_bind, run_getN] at he
    obtain ⟨o, _, ⟨ho, rfl⟩, he⟩ := he
    simp only [SV.Rel] at hx
    obtain ⟨p, hp, rfl⟩ := hx
    split at he
    · rename_i m ix kk' sz known
      simp only [run_bind, run_must] at he
      obtain ⟨_, _, ⟨hkk', rfl⟩, i, _, hf, he⟩ := he
      have := kkSame_eq hkk'; subst this
      obtain ⟨q, es, clk, kv, h1, h2, h3, h4, h5, h6, h7, h8, h9⟩ := H.objs n _ ho
      rw [hp] at h1; injection h1 with h1; subst h1
      obtain ⟨rfl, hfs⟩ := findS_ok hk h8 hf
      have hlook := h9 u huk
      have hkvk := h8.keys
      have I1 : ((E.il 1).den env).I = 1 := rfl
      -- there, or not
      have put : ∀ {known' : List (SV × KV)} {kv' : List (Value × Option Value)}, KnownRel env ρ kk' known' kv' → (∀ k, kk'.ok k → cont kv' (res env m (ix.den env).I) k = cond (keyEq u k) (some yv) (cont kv (res env m (ix.den env).I) k)) →
          (∀ {sz' : E}, (sz'.den env).I = (if (cont kv (res env m (ix.den env).I) u).isSome then (sz.den env).I else (sz.den env).I + 1) →
          ∃ w', (Instr.mapUpdate t (.map (some p.block)) u yv).run P w = .ok () w' ∧ HSat env w0 ρ (hput h n (.map m ix kk' sz' known')) w') := by
        intro known' kv' hkr hc sz' hsz
        rcases findNow_ok hkk huk es.toList 0 h6.keys with ⟨g1, g2, g3⟩ | ⟨j, e, g1, g2, g3, g4⟩
        · rw [← hlook, g2] at hsz
          have hrun : (Instr.mapUpdate t (.map (some p.block)) u yv).run P w = .ok () (w.setBlk p.block (.map (es.push { key := u, val := yv, born := clk }) (clk + 1))) := by
            simp only [Instr.mapUpdate, Sem.run_bind, s_und hu, Result.andThen_ok, run_getObj h5, s_checkKey hd hkk, s_findKey hd g1, run_setObj h5]
          refine ⟨_, hrun, H.update ho rfl hp rfl ⟨p, _, _, kv', hp, h2, h3, h4, setBlk_same h5, ?_, ?_, hkr, fun k hk => ?_⟩⟩
          · rw [Array.toList_push]; exact mapOk_push h6 huk g3 rfl
          · rw [hsz, ← h7]; simp
          · rw [Array.toList_push, mlook_push h6 (e := { key := u, val := yv, born := clk }) huk g3 hk, hc k hk, h9 k hk]
        · rw [← hlook, g4] at hsz
          rw [Nat.zero_add] at g3
          have gj : es[j]? = some e := by rw [← Array.getElem?_toList]; exact g1
          have hjl : j < es.size := (Array.getElem?_eq_some_iff.1 gj).1
          have hej : es[j] = e := by have := Array.getElem?_eq_getElem hjl; rw [gj] at this; exact (Option.some.inj this).symm
          have hrun : (Instr.mapUpdate t (.map (some p.block)) u yv).run P w = .ok () (w.setBlk p.block (.map (es.modify j fun e => { e with key := u, val := yv }) clk)) := by
            simp only [Instr.mapUpdate, Sem.run_bind, s_und hu, Result.andThen_ok, run_getObj h5, s_checkKey hd hkk, s_findKey hd g3, gj, Option.map_some, Option.getD_some, g2, keyStays huk, run_setObj h5]
          have hmod : (es.modify j fun e => { e with key := u, val := yv }).toList = es.toList.set j { e with key := u, val := yv } := by
            apply List.ext_getElem?
            intro i
            rw [Array.getElem?_toList, Array.getElem?_modify, List.getElem?_set, Array.getElem?_toList]
            by_cases e1 : j = i
            · subst e1; simp [gj, hjl, hej]
            · simp [e1]
          refine ⟨_, hrun, H.update ho rfl hp rfl ⟨p, _, _, kv', hp, h2, h3, h4, setBlk_same h5, ?_, ?_, hkr, fun k hk => ?_⟩⟩
          · rw [hmod]; exact mapOk_modify h6 g1 g2.symm rfl
          · rw [hsz, ← h7]; simp
          · rw [hmod, mlook_modify h6 g1 (e' := { e with key := u, val := yv }) g2.symm hk, hc k hk, h9 k hk, g2]
      rcases hfs with ⟨rfl, hmiss⟩ | ⟨j, k, y', rfl, hkn, a, b, hkv, hka, hke, hm, hyb⟩
      · simp only [run_bind, run_must, run_putN] at he
        obtain ⟨_, _, ⟨hm0, rfl⟩, rfl⟩ := he
        have hm0 := Nat.eq_of_beq_eq_true hm0
        subst hm0
        refine put (h8.snoc huk hk (x' := .yes y) (b' := some yv) ⟨yv, rfl, hy⟩) (fun k hk => cont_snoc hmiss huk hk hkvk) ?_
        rw [cont_miss hmiss, addI_I]; rfl
      · simp only [run_bind, run_ofOpt] at he
        obtain ⟨y2, _, ⟨hy', rfl⟩, q2, _, hq2, he⟩ := he
        rw [Nat.zero_add, hkn] at hy'
        injection hy' with hy'; subst hy'
        have hc := cont_hit (r := res env m (ix.den env).I) hkv hke hm
        have hset := fun k hk => cont_set (r := res env m (ix.den env).I) (b' := some yv) (k := k) huk hk hkvk hkv hke hm
        obtain ⟨rfl, hkw⟩ := knowS_ok hyb hq2
        rcases hkw with ⟨y1, bv, rfl, rfl, hy1⟩ | ⟨rfl, rfl⟩
        · simp only [run_putN] at he
          subst he
          rw [Nat.zero_add]
          refine put (h8.set (x' := .yes y) (b' := some yv) ⟨yv, rfl, hy⟩ hkn hkv) hset ?_
          rw [hc]; rfl
        · simp only [run_putN] at he
          subst he
          rw [Nat.zero_add]
          refine put (h8.set (x' := .yes y) (b' := some yv) ⟨yv, rfl, hy⟩ hkn hkv) hset ?_
          rw [hc, addI_I]; rfl
    · exact he.elim
  · exact he.elim

theorem deleteS_ok (H : HSat env w0 ρ h w) {t t2 ty : TypeId} {x key r : SV} {v u : Value} (hx : x.Rel env ρ v) (hk : key.Rel env ρ u) (he : (deleteS P t x key).Run env h r h') :
    SemOk P env w0 ρ nm h' w (Builtin.delete_ #[t, t2] ty #[v, u]) r := by
  simp only [deleteS, run_bind, mapD_run, run_must] at he
  obtain ⟨⟨kk, el⟩, _, ⟨⟨kt, kd, hu, hd, hkk⟩, rfl⟩, _, _, ⟨hko, rfl⟩, he⟩ := he
  simp only at hu hkk hko he
  have huk : kk.ok u := keyOk_ok hko hk
  split at he
  · simp only [run_pure] at he
    obtain ⟨rfl, rfl⟩ := he
    simp only [SV.Rel] at hx; subst hx
    refine SemOk.same H (v := .tuple #[]) ?_ ⟨[], rfl, rfl⟩
    simp [Builtin.delete_, s_und hu, s_checkKey hd hkk]
  · rename_i n
    simp only [run_bind, run_getN] at he
    obtain ⟨o, _, ⟨ho, rfl⟩, he⟩ := he
    simp only [SV.Rel] at hx
    obtain ⟨p, hp, rfl⟩ := hx
    split at he
    · rename_i m ix kk' sz known
      simp only [run_bind, run_must] at he
      obtain ⟨_, _, ⟨hkk', rfl⟩, i, _, hf, he⟩ := he
      have := kkSame_eq hkk'; subst this
      obtain ⟨q, es, clk, kv, h1, h2, h3, h4, h5, h6, h7, h8, h9⟩ := H.objs n _ ho
      rw [hp] at h1; injection h1 with h1; subst h1
      obtain ⟨rfl, hfs⟩ := findS_ok hk h8 hf
      have hlook := h9 u huk
      have hkvk := h8.keys
      have start : ∀ {o2 : Obj} {rr : Option (Nat × Value)}, Instr.findNow kd u es.toList 0 = some rr → (o2 = match rr with | some (i, _) => .map (es.eraseIdxIfInBounds i) clk | none => .map es clk) →
          (Builtin.delete_ #[t, t2] ty #[.map (some p.block), u]).run P w = .ok (.tuple #[]) (w.setBlk p.block o2) := by
        intro o2 rr hr ho2
        subst ho2
        cases rr with
        | none => simp [Builtin.delete_, s_und hu, run_getObj h5, s_checkKey hd hkk, s_findKey hd hr, run_setObj h5]
        | some x => simp [Builtin.delete_, s_und hu, run_getObj h5, s_checkKey hd hkk, s_findKey hd hr, run_setObj h5]
      have same : cont kv (res env m (ix.den env).I) u = none → SemOk P env w0 ρ nm h w (Builtin.delete_ #[t, t2] ty #[.map (some p.block), u]) (.tup []) := by
        intro hc
        rcases findNow_ok hkk huk es.toList 0 h6.keys with ⟨g1, g2, g3⟩ | ⟨j, e, g1, g2, g3, g4⟩
        · refine ⟨.tuple #[], _, ρ, start g1 rfl, PMap.le_refl ρ, fun n hn => .inl hn, ?_, [], rfl, rfl⟩
          have := H.update ho rfl hp (o' := .map m ix kk' sz known) (b := .map es clk) rfl ⟨p, es, clk, kv, hp, h2, h3, h4, setBlk_same h5, h6, h7, h8, h9⟩
          refine this.ext fun k => ?_
          rw [hget_hput]
          by_cases e : k = n
          · subst e; rw [if_pos rfl]; exact ho.symm
          · rw [if_neg e]
        · rw [← hlook, g4] at hc; cases hc
      rcases hfs with ⟨rfl, hmiss⟩ | ⟨j, k, y', rfl, hkn, a, b, hkv, hka, hke, hm, hyb⟩
      · simp only [run_bind, run_must, run_pure] at he
        obtain ⟨_, _, ⟨hm0, rfl⟩, rfl, rfl⟩ := he
        have hm0 := Nat.eq_of_beq_eq_true hm0
        subst hm0
        exact same (by rw [cont_miss hmiss]; rfl)
      · simp only [run_bind, run_ofOpt] at he
        obtain ⟨y2, _, ⟨hy', rfl⟩, q2, _, hq2, he⟩ := he
        rw [Nat.zero_add, hkn] at hy'
        injection hy' with hy'; subst hy'
        have hc := cont_hit (r := res env m (ix.den env).I) hkv hke hm
        obtain ⟨rfl, hkw⟩ := knowS_ok hyb hq2
        rcases hkw with ⟨y1, bv, rfl, rfl, hy1⟩ | ⟨rfl, rfl⟩
        · simp only [run_bind, run_putN, run_pure] at he
          obtain ⟨_, _, rfl, rfl, rfl⟩ := he
          · rcases findNow_ok hkk huk es.toList 0 h6.keys with ⟨g1, g2, g3⟩ | ⟨i, e, g1, g2, g3, g4⟩
            · rw [hlook, hc] at g2; cases g2
            · rw [Nat.zero_add] at g3
              have gi : es[i]? = some e := by rw [← Array.getElem?_toList]; exact g1
              have hil : i < es.size := (Array.getElem?_eq_some_iff.1 gi).1
              have her : (es.eraseIdxIfInBounds i).toList = es.toList.eraseIdx i := by
                unfold Array.eraseIdxIfInBounds
                rw [dif_pos hil, Array.toList_eraseIdx]
              refine ⟨.tuple #[], _, ρ, start g3 rfl, PMap.le_refl ρ, fun n hn => .inl hn, ?_, [], rfl, rfl⟩
              refine H.update ho rfl hp rfl ⟨p, _, _, kv.set j (a, none), hp, h2, h3, h4, setBlk_same h5, ?_, ?_, by rw [Nat.zero_add]; exact h8.set (x' := .no) (b' := none) rfl hkn hkv, fun k hk => ?_⟩
              · rw [her]; exact mapOk_erase h6 i
              · have : (es.eraseIdxIfInBounds i).size = es.size - 1 := by
                  unfold Array.eraseIdxIfInBounds
                  rw [dif_pos hil]; simp
                rw [this, subI_I, ← h7]
                show ((es.size - 1 : Nat) : Int) = (es.size : Int) - 1
                omega
              · rw [her, mlook_erase h6 g1 hk, cont_set huk hk hkvk hkv hke hm, h9 k hk, g2]
        · simp only [run_pure] at he
          obtain ⟨rfl, rfl⟩ := he
          exact same hc
    · exact he.elim
  · exact he.elim

theorem makeMapS_ok (H : HSat env w0 ρ h w) {t : TypeId} {r : Option SV} {v : Option Value} {x : SV} (hr : OptRel env ρ r v) (he : (makeMapS P nm t r).Run env h x h') : SemOk P env w0 ρ nm h' w (Instr.makeMap t v) x := by
  simp only [makeMapS, run_bind, mapD_run] at he
  obtain ⟨⟨kk, el⟩, _, ⟨⟨kt, kd, hu, hd, hkk⟩, rfl⟩, he⟩ := he
  simp only at hu hkk he
  have fin : (newS nm (.map 0 (.il 0) kk (.il 0) [])).Run env h () h' → x = .map nm → (Instr.makeMap t v).run P w = .ok (.map (some w.heap.size)) { w with heap := w.heap.push (.map #[] 0) } → SemOk P env w0 ρ nm h' w (Instr.makeMap t v) x := by
    intro h1 h2 h3
    subst h2
    rw [run_newS] at h1
    obtain ⟨hn, rfl⟩ := h1
    have hle := PMap.le_set (H.objs nm .resv hn) ⟨w.heap.size, 0, 0, false⟩
    refine ⟨_, _, _, h3, hle, set_fresh _, H.alloc hn rfl rfl ⟨_, #[], 0, [], set_self _, H.below.fresh, rfl, rfl, by simp, ⟨fun e he => (by simp at he), List.Pairwise.nil, fun e he => (by simp at he), List.Pairwise.nil⟩, rfl, rfl, fun k _ => rfl⟩, ⟨_, set_self _, rfl⟩⟩
  cases hr with
  | none =>
    simp only [run_bind, run_pure] at he
    obtain ⟨_, _, h1, rfl, rfl⟩ := he
    exact fin h1 rfl (by simp [Instr.makeMap, newObj, Sem.run])
  | some hx =>
    rename_i y v
    split at he
    · rename_i heq; cases heq
    · rename_i k e heq
      injection heq with heq; subst heq
      simp only [run_bind, run_pure] at he
      obtain ⟨_, _, h1, rfl, rfl⟩ := he
      simp only [SV.Rel] at hx; subst hx
      exact fin h1 rfl (by simp [Instr.makeMap, newObj, Sem.run, s_und hu, asInt, asIntOf])
    · exact he.elim

theorem makeSliceS_ok (H : HSat env w0 ρ h w) {t : TypeId} {x y r : SV} {v u : Value} (hx : x.Rel env ρ v) (hy : y.Rel env ρ u) (he : (makeSliceS P nm t x y).Run env h r h') : SemOk P env w0 ρ nm h' w (Instr.makeSlice t v u) r := by
  simp only [makeSliceS, run_bind, run_und] at he
  obtain ⟨d, _, ⟨hd, rfl⟩, he⟩ := he
  split at he
  · rename_i elem k n k' c
    simp only [run_bind, run_inf, run_must, run_vcE, run_zeroS, run_newS, run_pure] at he
    obtain ⟨i, _, ⟨hi, rfl⟩, _, _, ⟨h0, rfl⟩, _, _, ⟨hby, rfl⟩, _, _, ⟨hn6, rfl⟩, _, _, ⟨hc1, rfl⟩, _, _, ⟨hc2, rfl⟩, z, _, ⟨⟨iz, zv, hz1, hz2, hz3⟩, rfl⟩, _, _, ⟨hzl, rfl⟩, _, _, ⟨hn, rfl⟩, rfl, rfl⟩ := he
    have h0 : 0 < i.size := by simp [Nat.blt] at h0; omega
    have hby := Nat.le_of_ble_eq_true hby
    have hzl := Nat.eq_of_beq_eq_true hzl
    have hzr : z.Rel env ρ zv := ofVal_ok zv hz3
    have hzc := cells_ok (ofVal_shut hz3) hzr
    have hzs : zv.cells.size = i.size := by have := hzc.length; simp at this; omega
    rw [leE_iff] at hc1 hc2
    have hc1 : (n : Int) ≤ (c.den env).I := hc1
    have hc2 : (c.den env).I ≤ 2147483648 := hc2
    simp only [SV.Rel] at hx hy
    subst hx; subst hy
    generalize hC : (c.den env).I = C at *
    obtain ⟨m, rfl⟩ : ∃ m : Nat, C = m := ⟨C.toNat, by omega⟩
    have hnm : n ≤ m := by omega
    have hrep := repl_rel (env := env) (ρ := ρ) hzc n
    have hmod := range_mod zv.cells m
    rw [hzs] at hmod
    have hsplit : (List.replicate m zv.cells.toList).flatten = (List.replicate n zv.cells.toList).flatten ++ (List.replicate (m - n) zv.cells.toList).flatten := by
      rw [← List.flatten_append, List.replicate_append_replicate]
      congr 2; omega
    have hrow : RowRel env ρ i.size (.il 0) [] (repl n z.cells) (List.replicate n zv.cells.toList).flatten := ⟨[], _, rfl, by simp [E.den, Dv.I], fun k hk => by simp [E.den, Dv.I] at hk, hrep, fun t ht => by rw [repl_mem ht]; exact hzl, by simp⟩
    have hlenm : ∀ q, (List.replicate q zv.cells.toList).flatten.length = q * i.size := fun q => by
      rw [flatten_len (sz := i.size) (fun t ht => by rw [(List.mem_replicate.1 ht).2]; simpa using hzs)]; simp
    obtain ⟨hle, H'⟩ := new_row (T := elem) (rest := (List.replicate (m - n) zv.cells.toList).flatten) (cap := m) H hn hrow (by
      rw [← hsplit]; exact hlenm m)
    refine ⟨.slice (some ⟨w.heap.size, 0, none⟩) n m, _, _, ?_, hle, set_fresh _, H', ⟨_, some ⟨w.heap.size, 0, none⟩, set_self _, ?_, ?_, ?_, ?_, Int.le_refl 0⟩⟩
    · have w1 : IntKind.i64.wrap (n : Int) = n := wrap_in (k := .i64) (by show (-9223372036854775808 : Int) ≤ n; omega) (by show (n : Int) ≤ 9223372036854775807; omega)
      have w2 : IntKind.i64.wrap (m : Int) = m := wrap_in (k := .i64) (by show (-9223372036854775808 : Int) ≤ m; omega) (by show (m : Int) ≤ 9223372036854775807; omega)
      have e0 : ((E.il (Int.ofNat n)).den env).I = (n : Int) := rfl
      have hb48 : ¬ ((i.bytes : Int) * (m : Int) > 2 ^ 48) := by
        have h3 : i.bytes * m ≤ 4096 * 2147483648 := Nat.mul_le_mul hby (by omega)
        have h4 : (2 : Int) ^ 48 = 281474976710656 := by decide
        rw [h4]
        have h5 : ((i.bytes * m : Nat) : Int) ≤ 8796093022208 := by omega
        rw [Int.natCast_mul] at h5
        omega
      have c1 : ¬ (((decide ((m : Int) < 0) || decide ((i.bytes : Int) * (m : Int) > 2 ^ 48)) || decide ((n : Int) < 0) || decide ((n : Int) > (m : Int))) = true) := by
        simp only [Bool.or_eq_true, decide_eq_true_eq]
        omega
      have hrow2 : ((List.replicate n zv.cells.toList).flatten ++ (List.replicate (m - n) zv.cells.toList).flatten).toArray = (Array.range (m * i.size)).map (fun j => zv.cells[j % i.size]!) := by
        rw [← hsplit, ← hmod]
      rw [e0]
      simp only [Instr.makeSlice, asInt, asIntOf, Sem.run_bind, Sem.run_pure, Result.andThen_ok, s_und hd, s_inf hi, w1, w2, if_neg c1, run_askRoom, Int.toNat_natCast, s_size hi]
      by_cases hm0 : m * i.size = 0
      · have hr0 : ∀ f : Nat → Value, (Array.range 0).map f = #[] := fun f => by apply Array.eq_empty_of_size_eq_zero; simp
        rw [hrow2, hm0, hr0, if_pos rfl]
        simp only [Sem.run_bind, Result.andThen_ok, Sem.run_pure, newRow, run_newObj, hr0]
      · rw [hrow2, if_neg hm0]
        simp only [Sem.run_bind, s_zero hz1 hz2, Result.andThen_ok, Sem.run_pure, newRow, run_newObj, hzs]
    · simp [E.den, Dv.I]
    · simp
    · simp [E.den, Dv.I]
    · simp [E.den, Dv.I]; omega
  · exact he.elim
theorem makeChanS_ok (H : HSat env w0 ρ h w) {t : TypeId} {s x : SV} {v : Value} (hs : s.Rel env ρ v) (he : (makeChanS P nm t s).Run env h x h') : SemOk P env w0 ρ nm h' w (Instr.makeChan t v) x := by
  simp only [makeChanS, run_bind, run_und] at he
  obtain ⟨u, _, ⟨hu, rfl⟩, he⟩ := he
  split at he
  · rename_i dir elem k kk
    simp only [run_bind, run_inf, run_must, run_pure] at he
    obtain ⟨i, _, ⟨hi, rfl⟩, _, _, ⟨hb, rfl⟩, _, _, h1, rfl, rfl⟩ := he
    rw [run_newS] at h1
    obtain ⟨hn, rfl⟩ := h1
    simp only [SV.Rel] at hs
    subst hs
    rw [Bool.and_eq_true] at hb
    have h1 := Nat.le_of_ble_eq_true hb.1
    have h2 := Nat.le_of_ble_eq_true hb.2
    have hle := PMap.le_set (H.objs nm .resv hn) ⟨w.heap.size, 0, 0, false⟩
    refine ⟨.chan (some w.heap.size), { w with heap := w.heap.push (.chan kk #[] false 0 0 false) }, _, ?_, hle, set_fresh _, H.alloc hn rfl rfl ⟨_, kk, #[], 0, 0, false, set_self _, H.below.fresh, rfl, rfl, by simp; rfl⟩, ⟨_, set_self _, rfl⟩⟩
    have e0 : ((E.il (Int.ofNat kk)).den env).I = (kk : Int) := rfl
    have c1 : ¬ ((kk : Int) < 0 ∨ (kk : Int) > IntKind.i64.max ∨ (i.bytes : Int) * (kk : Int) > 2 ^ 48 - 112) := by
      have : IntKind.i64.max = 9223372036854775807 := rfl
      have h3 : (i.bytes : Int) * (kk : Int) ≤ 281474976710544 := by rw [← Int.natCast_mul]; omega
      have h4 : (2 : Int) ^ 48 - 112 = 281474976710544 := by decide
      rw [this, h4]
      omega
    rw [e0]
    simp only [Instr.makeChan, asInt, asIntOf, Sem.run_bind, Sem.run_pure, Result.andThen_ok, s_und hu, s_inf hi, if_neg c1, newObj, Sem.run, Int.toNat_natCast]
  · exact he.elim

theorem closeS_ok (H : HSat env w0 ρ h w) {tys : Array TypeId} {ty : TypeId} {x r : SV} {v : Value} (hx : x.Rel env ρ v) (he : (closeS x).Run env h r h') : SemOk P env w0 ρ nm h' w (Builtin.close_ tys ty #[v]) r := by
  unfold closeS at he
  split at he
  · rename_i n
    simp only [run_bind, run_getN] at he
    obtain ⟨o, _, ⟨ho, rfl⟩, he⟩ := he
    simp only [SV.Rel] at hx
    obtain ⟨p, hp, rfl⟩ := hx
    split at he
    · rename_i c
      simp only [run_bind, run_vcE, run_putN, run_pure, B_notE] at he
      obtain ⟨_, _, ⟨hc, rfl⟩, _, _, rfl, rfl, rfl⟩ := he
      obtain ⟨q, room, buf, s, rr, t, h1, h2, h3, h4, h5⟩ := H.objs n _ ho
      rw [hp] at h1; injection h1 with h1; subst h1
      have hc : (c.den env).B = false := by simpa using hc
      rw [hc] at h5
      obtain ⟨hlt, h6⟩ := Array.getElem?_eq_some_iff.1 h5
      refine ⟨.tuple #[], w.setBlk p.block (.chan room buf true s rr t), ρ, ?_, PMap.le_refl ρ, fun n hn => .inl hn, H.update ho rfl hp rfl ⟨p, room, buf, s, rr, t, hp, h2, h3, h4, setBlk_same h5⟩, [], rfl, rfl⟩
      have e : Builtin.close_ tys ty #[.chan (some p.block)] = (do
          let .chan room buf closed sent received timer ← getObj p.block | stuck "close: no channel in this block"
          if closed then runtimePanic (.plain "close of closed channel")
          setObj p.block (.chan room buf true sent received timer)
          pure (.tuple #[])) := rfl
      rw [e]
      simp [getObj, setObj, Sem.run, h5, h6, World.setBlk, Array.setIfInBounds, hlt]
    · exact he.elim
  · exact he.elim
end
end Go.Sx

namespace Go.Sx
open Go.RowKit
set_option linter.unusedVariables false
set_option linter.unusedSimpArgs false

section
variable {P : Program} {env : Env} {w0 : Anchor} {w : World} {ρ : PMap} {h h' : Heap} {nm : Nat}

def OutRel (env : Env) (ρ : PMap) : SOut → Next → Prop
  | .val x, n => ∃ v, n = .value v ∧ x.Rel env ρ v
  | .skip, n => n = .skip
  | .call f args, n => ∃ vs, n = .enter f vs.toArray ∧ SV.Rels env ρ args vs
  | .defer fn cap args, n => ∃ cs vs, n = .defer { target := .fn fn cs.toArray, args := vs.toArray } ∧ SV.Rels env ρ cap cs ∧ SV.Rels env ρ args vs

/-- What an operation comes to. -/
def StepOk (P : Program) (env : Env) (w0 : Anchor) (ρ : PMap) (nm : Nat) (h' : Heap) (w : World) (s : Sem Next) (out : SOut) : Prop :=
  ∃ n w' ρ', s.run P w = .ok n w' ∧ ρ.le ρ' ∧ (∀ n, ρ n = none → ρ' n = none ∨ n = nm) ∧ HSat env w0 ρ' h' w' ∧ OutRel env ρ' out n

theorem SemOk.value {s : Sem Value} {x : SV} (hs : SemOk P env w0 ρ nm h' w s x) : StepOk P env w0 ρ nm h' w (do pure (.value (← s))) (.val x) := by
  obtain ⟨v, w', ρ', h1, h2, h3, h4, h5⟩ := hs
  exact ⟨.value v, w', ρ', by simp only [Sem.run_bind, h1, Result.andThen_ok, Sem.run_pure], h2, h3, h4, v, rfl, h5⟩

theorem valO_run {p : Prog SV} {out : SOut} : (valO p).Run env h out h' ↔ ∃ x, out = .val x ∧ p.Run env h x h' := by
  simp only [valO, run_bind, run_pure]
  constructor
  · rintro ⟨v, _, h1, rfl, rfl⟩; exact ⟨v, rfl, h1⟩
  · rintro ⟨x, rfl, h1⟩; exact ⟨x, _, h1, rfl, rfl⟩

theorem evs_ok {ev : Operand → Option SV} {g : Operand → Value} (hev : ∀ x s, ev x = some s → s.Rel env ρ (g x)) : ∀ {l : List Operand} {r : List SV} {h h' : Heap},
    (evs ev l).Run env h r h' → h = h' ∧ SV.Rels env ρ r (l.map g)
  | [], r, h, h', he => by simp only [evs, run_ret] at he; obtain ⟨rfl, rfl⟩ := he; exact ⟨rfl, rfl⟩
  | x :: l, r, h, h', he => by
    simp only [evs, run_bind, run_ofOpt, run_pure] at he
    obtain ⟨v, _, ⟨h1, rfl⟩, q, _, h2, rfl, rfl⟩ := he
    obtain ⟨rfl, h3⟩ := evs_ok hev h2
    exact ⟨rfl, g x, _, rfl, hev x v h1, h3⟩
theorem evp_ok {ev : Operand → Option SV} {g : Operand → Value} (hev : ∀ x s, ev x = some s → s.Rel env ρ (g x)) : ∀ {l : List (Nat × Operand)} {r : List (Nat × SV)} {h h' : Heap},
    (evp ev l).Run env h r h' → h = h' ∧ PartsRel env ρ r (l.map fun (i, x) => (i, g x))
  | [], r, h, h', he => by simp only [evp, run_ret] at he; obtain ⟨rfl, rfl⟩ := he; exact ⟨rfl, .nil⟩
  | (i, x) :: l, r, h, h', he => by
    simp only [evp, run_bind, run_ofOpt, run_pure] at he
    obtain ⟨v, _, ⟨h1, rfl⟩, q, _, h2, rfl, rfl⟩ := he
    obtain ⟨rfl, h3⟩ := evp_ok hev h2
    exact ⟨rfl, .cons (hev x v h1) h3⟩
theorem evo_ok {ev : Operand → Option SV} {g : Operand → Value} (hev : ∀ x s, ev x = some s → s.Rel env ρ (g x)) {o : Option Operand} {r : Option SV} {h h' : Heap}
    (he : (evo ev o).Run env h r h') : h = h' ∧ OptRel env ρ r (o.map g) := by
  cases o with
  | none => simp only [evo, run_ret] at he; obtain ⟨rfl, rfl⟩ := he; exact ⟨rfl, .none⟩
  | some x =>
    simp only [evo, run_bind, run_ofOpt, run_pure] at he
    obtain ⟨v, _, ⟨h1, rfl⟩, rfl, rfl⟩ := he
    exact ⟨rfl, .some (hev x v h1)⟩

/-- No function with a body bears the one name that the model looks for. -/
def Plain (P : Program) : Prop := ∀ (f : FuncId) (fn : Func), P.funcs[f]? = some fn → fn.body.isSome = true → (fn.name == "runtime.NumGoroutine") = false

theorem callF_ok (hP : Plain P) (H : HSat env w0 ρ h w) {f : FuncId} {args : List SV} {vs : List Value} {out : SOut} (ha : SV.Rels env ρ args vs) (he : (callF P f args).Run env h out h') :
    StepOk P env w0 ρ nm h' w (callFunc f vs.toArray) out := by
  simp only [callF, run_bind, run_ofOpt, run_must, run_pure] at he
  obtain ⟨fn, _, ⟨hf, rfl⟩, _, _, ⟨hb, rfl⟩, rfl, rfl⟩ := he
  have hname := hP f fn hf hb
  have hnone : fn.body.isNone = false := by cases hbb : fn.body <;> simp_all
  exact ⟨.enter f vs.toArray, w, ρ, by simp only [callFunc, Sem.run_bind, run_program, Result.andThen_ok, hf, hname, Bool.false_eq_true, if_false, hnone, Sem.run_pure], PMap.le_refl ρ, fun n hn => .inl hn, H, vs, rfl, ha⟩

def mOk : TypeDesc → Bool → Bool
  | .pointer _, b => b
  | _, b => !b

theorem callM_ok (hP : Plain P) (H : HSat env w0 ρ h w) {recv : SV} {rv : Value} {name : String} {args : List SV} {vs : List Value} {out : SOut} (hr : recv.Rel env ρ rv) (ha : SV.Rels env ρ args vs)
    (he : (callM P recv name args).Run env h out h') : StepOk P env w0 ρ nm h' w (callMethod rv name vs.toArray) out := by
  cases recv with
  | ifc t v =>
    simp only [SV.Rel] at hr
    obtain ⟨u, rfl, hu⟩ := hr
    simp only [callM, run_bind, run_inf, run_ofOpt, run_must, run_und] at he
    obtain ⟨i, _, ⟨hi, rfl⟩, m, _, ⟨hm, rfl⟩, _, _, ⟨hpath, rfl⟩, ty, _, ⟨hty, rfl⟩, he⟩ := he
    have hp : m.path = #[] := by simpa using hpath
    obtain ⟨k, hk⟩ : ∃ k, P.types.size + Made.depth = k + 1 := ⟨P.types.size + 99, rfl⟩
    have hargs : SV.Rels env ρ (v :: args) (u :: vs) := ⟨u, vs, rfl, hu, ha⟩
    have e : (#[u] : Array Value) ++ vs.toArray = (u :: vs).toArray := by apply Array.ext'; simp
    cases hf : m.func with
    | none => rw [hf] at he; exact he.elim
    | some q =>
      obtain ⟨f, ptr⟩ := q
      rw [hf] at he
      have meth : mOk ty ptr = true →
          (method (P.types.size + Made.depth) t u name).run P w = .ok (f, u) w := by
        intro hc
        rw [hk]
        simp only [method, Sem.run_bind, s_inf hi, Result.andThen_ok, hm, hp, Array.toList_empty, follow, Sem.run_pure, hf, receiverAt, s_und hty]
        cases ty <;> cases ptr <;> first
          | (cases hc; done)
          | (simp only [Place.get, Sem.run_bind, Sem.run_pure, Result.andThen_ok]; done)
      have fin : mOk ty ptr = true → (callF P f (v :: args)).Run env h out h' →
          StepOk P env w0 ρ nm h' w (callMethod (.iface t u) name vs.toArray) out := by
        intro hc hh
        obtain ⟨n, w', ρ', h1, h2⟩ := callF_ok hP H hargs hh
        refine ⟨n, w', ρ', ?_, h2⟩
        simp only [callMethod, Sem.run_bind, run_program, Result.andThen_ok, meth hc, e]
        exact h1
      cases ty <;> cases ptr <;> first
        | exact he.elim
        | exact fin rfl he
  | _ => exact he.elim

theorem min_run {tys : Array TypeId} {ty : TypeId} {k k' : IntKind} {a b : Int} : (Builtin.min_ tys ty [Value.int k a, .int k' b].toArray).run P w = .ok (.int k (if b < a then b else a)) w := by
  simp only [Builtin.min_, List.foldlM_cons, List.foldlM_nil, Builtin.min2, Sem.run_bind, Sem.run_pure, Result.andThen_ok]
theorem max_run {tys : Array TypeId} {ty : TypeId} {k k' : IntKind} {a b : Int} : (Builtin.max_ tys ty [Value.int k a, .int k' b].toArray).run P w = .ok (.int k (if b > a then b else a)) w := by
  simp only [Builtin.max_, List.foldlM_cons, List.foldlM_nil, Builtin.max2, Sem.run_bind, Sem.run_pure, Result.andThen_ok]

theorem builtinS_ok (H : HSat env w0 ρ h w) {b : Builtin} {tys : Array TypeId} {ty : TypeId} {cs : Array Bool} {args : List SV} {vs : List Value} {out : SOut} (ha : SV.Rels env ρ args vs)
    (he : (builtinS P nm b tys.toList args).Run env h out h') : StepOk P env w0 ρ nm h' w (builtin b tys ty cs vs.toArray) out := by
  unfold builtinS at he
  split at he
  · rename_i t x htys
    simp only [run_bind, run_pure] at he
    obtain ⟨v, _, hv, rfl, rfl⟩ := he
    simp only [SV.Rels] at ha
    obtain ⟨y, _, rfl, hy, rfl⟩ := ha
    have : tys = #[t] := by apply Array.ext'; exact htys
    subst this
    exact (lenS_ok (ty := ty) H hy hv).value
  · rename_i t u s x htys
    simp only [run_bind, run_und] at he
    obtain ⟨d, _, ⟨hd, rfl⟩, he⟩ := he
    cases d with
    | slice e2 =>
      simp only [run_bind, run_pure] at he
      obtain ⟨v, _, hv, rfl, rfl⟩ := he
      simp only [SV.Rels] at ha
      obtain ⟨y, _, rfl, hy, z, _, rfl, hz, rfl⟩ := ha
      have : tys = #[t, u] := by apply Array.ext'; exact htys
      subst this
      exact (appendS_ok (ti := ty) H hy hz hd hv).value
    | _ => exact he.elim
  · rename_i x
    simp only [run_bind, run_pure] at he
    obtain ⟨v, _, hv, rfl, rfl⟩ := he
    simp only [SV.Rels] at ha
    obtain ⟨y, _, rfl, hy, rfl⟩ := ha
    exact (closeS_ok (tys := tys) (ty := ty) H hy hv).value
  · rename_i t u x k htys
    simp only [run_bind, run_pure] at he
    obtain ⟨v, _, hv, rfl, rfl⟩ := he
    simp only [SV.Rels] at ha
    obtain ⟨y, _, rfl, hy, z, _, rfl, hz, rfl⟩ := ha
    have : tys = #[t, u] := by apply Array.ext'; exact htys
    subst this
    exact (deleteS_ok (ty := ty) H hy hz hv).value
  · simp only [run_pure] at he
    obtain ⟨rfl, rfl⟩ := he
    simp only [SV.Rels, SV.Rel] at ha
    obtain ⟨_, _, rfl, rfl, _, _, rfl, rfl, rfl⟩ := ha
    exact SemOk.value (SemOk.same H min_run (by simp only [SV.Rel, mk2_den]; rfl))
  · simp only [run_pure] at he
    obtain ⟨rfl, rfl⟩ := he
    simp only [SV.Rels, SV.Rel] at ha
    obtain ⟨_, _, rfl, rfl, _, _, rfl, rfl, rfl⟩ := ha
    exact SemOk.value (SemOk.same H max_run (by simp only [SV.Rel, mk2_den]; rfl))
  · exact he.elim

theorem guardS_ok {op : BinOp} {t : TypeId} {x y : Operand} {a b : SV} {v u : Value} {r : Unit} (ha : a.Rel env ρ v) (hb : b.Rel env ρ u) (he : (guardS P op t x y a b).Run env h r h') :
    h = h' ∧ (eqGuard op t x y v u).run P w = .ok () w := by
  have plain : (op ≠ .eql ∧ op ≠ .neq) → (eqGuard op t x y v u).run P w = .ok () w := by
    intro hop
    cases op <;> first
      | rfl
      | exact absurd rfl hop.1
      | exact absurd rfl hop.2
  have nils : (cstE x || cstE y) = true → v = .nilIface → u = .nilIface → (eqGuard op t x y v u).run P w = .ok () w := by
    intro hc hv hu
    subst hv; subst hu
    cases op <;> first
      | rfl
      | (cases x <;> cases y <;> first | rfl | (cases hc; done))
  have other : (v = .nilIface → u = .nilIface → False) → (∀ l m, v = .agg l → u = .agg m → P.eqGuardType P.depth t = false) → (eqGuard op t x y v u).run P w = .ok () w := by
    intro c1 c2
    unfold eqGuard
    cases v <;> cases u <;> first
      | exact (c1 rfl rfl).elim
      | exact run_eqGuard_agg w op t x y _ _ (c2 _ _ rfl rfl)
      | (cases op <;> rfl)
  have nn : ∀ {q : SV} {z : Value}, q.Rel env ρ z → q.shut = true → q.isNilif = false → z ≠ .nilIface := by
    intro q z hq hs hn e
    subst e
    cases q <;> simp only [SV.shut, SV.isNilif] at hs hn <;> simp [SV.Rel, DK.Rel] at hq <;> (try (cases hs; done)) <;> (try (cases hn; done))
  have na : ∀ {q : SV} {z : Value}, q.Rel env ρ z → q.shut = true → q.isAggS = false → ∀ l, z ≠ .agg l := by
    intro q z hq hs hn l e
    subst e
    cases q <;> simp only [SV.shut, SV.isAggS] at hs hn <;> simp [SV.Rel, DK.Rel] at hq <;> (try (cases hs; done)) <;> (try (cases hn; done))
  have main : ((a.shut && b.shut) = true) → ((!(a.isAggS && b.isAggS) || !(P.eqGuardType P.depth t)) = true) → ((cstE x || cstE y || !(a.isNilif && b.isNilif)) = true) → (eqGuard op t x y v u).run P w = .ok () w := by
    intro h1 h2 h3
    simp only [Bool.and_eq_true] at h1
    cases h4 : (a.isNilif && b.isNilif) with
    | true =>
      rw [h4] at h3
      simp only [Bool.and_eq_true] at h4
      have e1 : v = .nilIface := by cases a <;> simp only [SV.isNilif] at h4 <;> first | exact ha | (cases h4.1)
      have e2 : u = .nilIface := by cases b <;> simp only [SV.isNilif] at h4 <;> first | exact hb | (cases h4.2)
      exact nils (by simpa using h3) e1 e2
    | false =>
      refine other (fun e1 e2 => ?_) (fun l m e1 e2 => ?_)
      · rcases Bool.and_eq_false_iff.1 h4 with h | h
        · exact nn ha h1.1 h e1
        · exact nn hb h1.2 h e2
      · rw [Bool.or_eq_true] at h2
        rcases h2 with h2 | h2
        · have h2' : (a.isAggS && b.isAggS) = false := by rw [← Bool.not_eq_true']; exact h2
          rcases Bool.and_eq_false_iff.1 h2' with h | h
          · exact (na ha h1.1 h _ e1).elim
          · exact (na hb h1.2 h _ e2).elim
        · simpa using h2
  unfold guardS at he
  split at he
  · simp only [run_bind, run_must] at he
    obtain ⟨_, _, ⟨h1, rfl⟩, _, _, ⟨h2, rfl⟩, h3, rfl⟩ := he
    exact ⟨rfl, main h1 h2 h3⟩
  · simp only [run_bind, run_must] at he
    obtain ⟨_, _, ⟨h1, rfl⟩, _, _, ⟨h2, rfl⟩, h3, rfl⟩ := he
    exact ⟨rfl, main h1 h2 h3⟩
  · rename_i h1 h2
    rw [run_ret] at he
    exact ⟨he.2, plain ⟨h1, h2⟩⟩

theorem callS_ok (hP : Plain P) (H : HSat env w0 ρ h w) {ev : Operand → Option SV} {g : Operand → Value} (hev : ∀ x s, ev x = some s → s.Rel env ρ (g x)) {c : Call} {ty : TypeId} {out : SOut}
    (he : (callS P nm ev c).Run env h out h') : StepOk P env w0 ρ nm h' w (do let d ← resolve g c ty; invoke d.target d.args) out := by
  simp only [callS, run_bind] at he
  obtain ⟨args, _, ha0, he⟩ := he
  obtain ⟨rfl, ha⟩ := evs_ok hev ha0
  have hargs : c.args.map g = (c.args.toList.map g).toArray := by apply Array.ext'; simp
  split at he
  · rename_i b hc
    obtain ⟨n, w', ρ', h1, h2⟩ := builtinS_ok (ty := ty) (cs := c.args.map fun | .const _ => true | _ => false) H ha he
    refine ⟨n, w', ρ', ?_, h2⟩
    simp only [resolve, hc, Sem.run_bind, Sem.run_pure, Result.andThen_ok, invoke, hargs]
    exact h1
  · rename_i r name hc
    simp only [run_bind, ev1, run_ofOpt] at he
    obtain ⟨x, _, ⟨hx, rfl⟩, he⟩ := he
    obtain ⟨n, w', ρ', h1, h2⟩ := callM_ok hP H (hev r x hx) ha he
    refine ⟨n, w', ρ', ?_, h2⟩
    simp only [resolve, hc, Sem.run_bind, Sem.run_pure, Result.andThen_ok, invoke, hargs]
    have e1 : (#[g r] ++ (c.args.toList.map g).toArray)[0]? = some (g r) := by simp
    have e2 : (#[g r] ++ (c.args.toList.map g).toArray).extract 1 (#[g r] ++ (c.args.toList.map g).toArray).size = (c.args.toList.map g).toArray := by
      apply Array.ext'
      simp only [Array.toList_extract, Array.toList_append, List.extract_eq_take_drop, Array.size_append, List.size_toArray, List.length_map, Array.length_toList]
      simp only [List.singleton_append, List.drop_succ_cons, List.drop_zero]
      apply List.take_of_length_le
      simp
    rw [e1, e2]
    exact h1
  · rename_i f hc
    simp only [run_bind, ev1, run_ofOpt] at he
    obtain ⟨x, _, ⟨hx, rfl⟩, he⟩ := he
    split at he
    · rename_i q first cap
      have hr := hev f _ hx
      simp only [SV.Rel] at hr
      obtain ⟨vf, vc, hg, hvf, hvc⟩ := hr
      obtain ⟨n, w', ρ', h1, h2⟩ := callF_ok hP H ((hvf.append ha).append hvc) he
      refine ⟨n, w', ρ', ?_, h2⟩
      have e : vf.toArray ++ (c.args.toList.map g).toArray ++ vc.toArray = (vf ++ c.args.toList.map g ++ vc).toArray := by apply Array.ext'; simp
      simp only [resolve, hc, hg, Deferred.ofValue, Sem.run_bind, Sem.run_pure, Result.andThen_ok, invoke, hargs, e]
      exact h1
    · exact he.elim

theorem deferS_ok (H : HSat env w0 ρ h w) {ev : Operand → Option SV} {g : Operand → Value} (hev : ∀ x s, ev x = some s → s.Rel env ρ (g x)) {c : Call} {ty : TypeId} {out : SOut}
    (he : (deferS ev c).Run env h out h') : StepOk P env w0 ρ nm h' w (do pure (.defer (← resolve g c ty))) out := by
  simp only [deferS, run_bind] at he
  obtain ⟨args, _, ha0, he⟩ := he
  obtain ⟨rfl, ha⟩ := evs_ok hev ha0
  have hargs : c.args.map g = (c.args.toList.map g).toArray := by apply Array.ext'; simp
  split at he
  · rename_i f hc
    simp only [run_bind, ev1, run_ofOpt] at he
    obtain ⟨x, _, ⟨hx, rfl⟩, he⟩ := he
    split at he
    · rename_i q first cap
      simp only [run_pure] at he
      obtain ⟨rfl, rfl⟩ := he
      have hr := hev f _ hx
      simp only [SV.Rel] at hr
      obtain ⟨vf, vc, hg, hvf, hvc⟩ := hr
      have e : vf.toArray ++ (c.args.toList.map g).toArray = (vf ++ c.args.toList.map g).toArray := by apply Array.ext'; simp
      refine ⟨.defer { target := .fn (.func q) vc.toArray, args := (vf ++ c.args.toList.map g).toArray }, w, ρ, ?_, PMap.le_refl ρ, fun n hn => .inl hn, H, vc, _, rfl, hvc, hvf.append ha⟩
      simp only [resolve, hc, hg, Deferred.ofValue, Sem.run_bind, Sem.run_pure, Result.andThen_ok, hargs, e]
    · exact he.elim
  · exact he.elim

theorem opS_ok (hP : Plain P) (H : HSat env w0 ρ h w) {sl : List SV} {a : Act} (hs : SV.Rels env ρ sl a.tmps.toList) {o : Oper} {out : SOut}
    (he : (opS P nm (evalS sl) o.op).Run env h out h') : StepOk P env w0 ρ nm h' w (execOp a.eval o) out := by
  have hev : ∀ x s, evalS sl x = some s → s.Rel env ρ (a.eval x) := fun x s hx => evalS_ok hs hx
  have mv : ∀ {x : Operand}, (valO (ev1 (evalS sl) x)).Run env h out h' → StepOk P env w0 ρ nm h' w (pure (.value (a.eval x))) out := by
    intro x hh
    simp only [valO_run, ev1, run_ofOpt] at hh
    obtain ⟨s, rfl, h1, rfl⟩ := hh
    exact ⟨_, w, ρ, rfl, PMap.le_refl ρ, fun n hn => .inl hn, H, _, rfl, hev _ _ h1⟩
  obtain ⟨dst, op, type, pos, after, guard⟩ := o
  cases op <;> simp only [opS] at he <;> (try (exact he.elim)) <;> simp only [execOp]
  case move x => exact mv he
  case assign x => exact mv he
  case pick c x y =>
    simp only [run_bind, ev1, run_ofOpt] at he
    obtain ⟨s, _, ⟨h1, rfl⟩, he⟩ := he
    split at he
    · rename_i e
      simp only [run_bind, run_decE] at he
      obtain ⟨b, _, ⟨hb, rfl⟩, he⟩ := he
      have hr := hev _ _ h1
      simp only [SV.Rel] at hr
      rw [hr]
      obtain ⟨n, w', ρ', g1, g2⟩ := mv he
      refine ⟨n, w', ρ', ?_, g2⟩
      rw [← g1]
      simp only [asBool, Sem.run_bind, Sem.run_pure, Result.andThen_ok, hb]
      cases b <;> rfl
    · exact he.elim
  case alloc t =>
    obtain ⟨x, rfl, he'⟩ := valO_run.1 he; clear he; have he := he'; clear he'
    exact (allocS_ok H he).value
  case box t x =>
    obtain ⟨r, rfl, he'⟩ := valO_run.1 he; clear he; have he := he'; clear he'
    simp only [run_bind, ev1, run_ofOpt] at he
    obtain ⟨s, _, ⟨h1, rfl⟩, he⟩ := he
    exact (boxS_ok H (hev _ _ h1) he).value
  case build t parts =>
    obtain ⟨r, rfl, he'⟩ := valO_run.1 he; clear he; have he := he'; clear he'
    simp only [run_bind] at he
    obtain ⟨l, _, h1, he⟩ := he
    obtain ⟨rfl, h2⟩ := evp_ok hev h1
    exact (buildS_ok H (by simpa using h2) he).value
  case buildSlice t n parts =>
    obtain ⟨r, rfl, he'⟩ := valO_run.1 he; clear he; have he := he'; clear he'
    simp only [run_bind] at he
    obtain ⟨l, _, h1, he⟩ := he
    obtain ⟨rfl, h2⟩ := evp_ok hev h1
    exact (buildSliceS_ok H (by simpa using h2) he).value
  case load t x =>
    obtain ⟨r, rfl, he'⟩ := valO_run.1 he; clear he; have he := he'; clear he'
    simp only [run_bind, ev1, run_ofOpt] at he
    obtain ⟨s, _, ⟨h1, rfl⟩, he⟩ := he
    exact (loadS_ok H (hev _ _ h1) he).value
  case store t x y =>
    simp only [run_bind, ev1, run_ofOpt, run_pure] at he
    obtain ⟨s, _, ⟨h1, rfl⟩, v, _, ⟨h2, rfl⟩, _, _, he, rfl, rfl⟩ := he
    obtain ⟨w', g1, g2⟩ := storeS_ok H (hev _ _ h1) (hev _ _ h2) he
    exact ⟨.skip, w', ρ, by simp only [Sem.run_bind, g1, Result.andThen_ok, Sem.run_pure], PMap.le_refl ρ, fun n hn => .inl hn, g2, rfl⟩
  case nilCheck x =>
    obtain ⟨r, rfl, he'⟩ := valO_run.1 he; clear he; have he := he'; clear he'
    simp only [run_bind, ev1, run_ofOpt] at he
    obtain ⟨s, _, ⟨h1, rfl⟩, he⟩ := he
    have hr := hev _ _ h1
    have fin : (∀ v, v = a.eval x → (v ≠ .pointer none ∧ v ≠ .nilIface ∧ v ≠ .nilFunc ∧ ∀ n f c, v ≠ .func (.method n) f c)) → r.Rel env ρ (a.eval x) →
        StepOk P env w0 ρ nm h w (match a.eval x with
          | .pointer none | .nilIface | .nilFunc => runtimePanic .nilDeref
          | .func (.method name) first captured =>
            match (first[0]? : Option Value) with
            | some .nilIface => runtimePanic .nilDeref
            | some (.iface t w) => do
              if (← nilAhead ((← program).types.size + Made.depth) t w name) != some false then
                unsupported (.noEntry "op/nilCheck.the method's receiver behind this interface value is a nil pointer, or cannot be seen to be none, and the arguments act or may panic (ledger 612)")
              pure (.value (.func (.method name) first captured))
            | _ => pure (.value (.func (.method name) first captured))
          | x => pure (.value x)) (.val r) := by
      intro hc hr
      obtain ⟨c1, c2, c3, c4⟩ := hc _ rfl
      generalize a.eval x = v at *
      refine ⟨.value v, w, ρ, ?_, PMap.le_refl ρ, fun n hn => .inl hn, H, v, rfl, hr⟩
      split <;> first
        | exact absurd rfl c1
        | exact absurd rfl c2
        | exact absurd rfl c3
        | exact absurd rfl (c4 _ _ _)
        | rfl
    split at he
    · simp only [run_pure] at he
      obtain ⟨rfl, rfl⟩ := he
      refine fin (fun v hv => ?_) hr
      subst hv
      simp only [SV.Rel] at hr
      obtain ⟨p, _, hr⟩ := hr
      rw [hr]
      exact ⟨by simp, by simp, by simp, by simp⟩
    · simp only [run_pure] at he
      obtain ⟨rfl, rfl⟩ := he
      refine fin (fun v hv => ?_) hr
      subst hv
      simp only [SV.Rel] at hr
      obtain ⟨b, o, hr, _⟩ := hr
      rw [hr]
      exact ⟨by simp, by simp, by simp, by simp⟩
    · simp only [run_pure] at he
      obtain ⟨rfl, rfl⟩ := he
      refine fin (fun v hv => ?_) hr
      subst hv
      simp only [SV.Rel] at hr
      obtain ⟨p, hr⟩ := hr
      rw [hr]
      exact ⟨by simp, by simp, by simp, by simp⟩
    · simp only [run_pure] at he
      obtain ⟨rfl, rfl⟩ := he
      refine fin (fun v hv => ?_) hr
      subst hv
      simp only [SV.Rel] at hr
      obtain ⟨p, hr, _⟩ := hr
      rw [hr]
      exact ⟨by simp, by simp, by simp, by simp⟩
    · simp only [run_pure] at he
      obtain ⟨rfl, rfl⟩ := he
      refine fin (fun v hv => ?_) hr
      subst hv
      simp only [SV.Rel] at hr
      obtain ⟨p, q, hr, _⟩ := hr
      rw [hr]
      exact ⟨by simp, by simp, by simp, by simp⟩
    · rename_i mname t xx c
      simp only [run_bind, run_inf, run_ofOpt, run_must, run_pure] at he
      obtain ⟨ti, _, ⟨hi, rfl⟩, m, _, ⟨hm, rfl⟩, _, _, ⟨hpath, rfl⟩, _, _, ⟨hby, rfl⟩, rfl, rfl⟩ := he
      have hp : m.path = #[] := by simpa using hpath
      have hr' := hr
      simp only [SV.Rel, SV.Rels] at hr'
      obtain ⟨xs, ys, hv, ⟨_, _, rfl, ⟨z, rfl, hz⟩, rfl⟩, hys⟩ := hr'
      obtain ⟨k, hk⟩ : ∃ k, P.types.size + Made.depth = k + 1 := ⟨P.types.size + 99, rfl⟩
      have hna : (nilAhead (P.types.size + Made.depth) t z mname).run P w = .ok (some false) w := by
        rw [hk]
        cases hf : m.func with
        | none => rw [hf] at hby; cases hby
        | some q =>
          obtain ⟨f, b⟩ := q
          cases b with
          | false => rw [hf] at hby; cases hby
          | true => simp only [nilAhead, Sem.run_bind, s_inf hi, Result.andThen_ok, hm, hp, Array.toList_empty, followBlind, Sem.run_pure, hf]
      refine ⟨.value (a.eval x), w, ρ, ?_, PMap.le_refl ρ, fun n hn => .inl hn, H, _, rfl, hr⟩
      rw [hv]
      have e0 : ([Value.iface t z].toArray[0]? : Option Value) = some (.iface t z) := rfl
      simp only [e0, Sem.run_bind, run_program, Result.andThen_ok, hna, Sem.run_pure]
      rfl
    · exact he.elim
  case binOp op t x y yt =>
    obtain ⟨r, rfl, he'⟩ := valO_run.1 he; clear he; have he := he'; clear he'
    simp only [run_bind, ev1, run_ofOpt] at he
    obtain ⟨s, _, ⟨h1, rfl⟩, v, _, ⟨h2, rfl⟩, _, _, h3, he⟩ := he
    obtain ⟨rfl, h4⟩ := guardS_ok (P := P) (w := w) (t := t) (hev _ _ h1) (hev _ _ h2) h3
    refine SemOk.value ?_
    obtain ⟨u, w', ρ', g1, g2⟩ := binS_ok (nm := nm) H (hev _ _ h1) (hev _ _ h2) he
    exact ⟨u, w', ρ', by simp only [Sem.run_bind, h4, Result.andThen_ok]; exact g1, g2⟩
  case unOp op t x =>
    obtain ⟨r, rfl, he'⟩ := valO_run.1 he; clear he; have he := he'; clear he'
    simp only [run_bind, ev1, run_ofOpt] at he
    obtain ⟨s, _, ⟨h1, rfl⟩, he⟩ := he
    exact (unS_ok H (hev _ _ h1) he).value
  case convert s d x =>
    obtain ⟨r, rfl, he'⟩ := valO_run.1 he; clear he; have he := he'; clear he'
    simp only [run_bind, ev1, run_ofOpt] at he
    obtain ⟨s, _, ⟨h1, rfl⟩, he⟩ := he
    exact (convS_ok H (hev _ _ h1) he).value
  case makeInterface t x =>
    obtain ⟨r, rfl, he'⟩ := valO_run.1 he; clear he; have he := he'; clear he'
    simp only [run_bind, ev1, run_ofOpt] at he
    obtain ⟨s, _, ⟨h1, rfl⟩, he⟩ := he
    exact (ifaceS_ok H (hev _ _ h1) he).value
  case makeFunc fn first cap =>
    obtain ⟨r, rfl, he'⟩ := valO_run.1 he; clear he; have he := he'; clear he'
    simp only [run_bind, run_pure] at he
    obtain ⟨l1, _, h1, l2, _, h2, rfl, rfl⟩ := he
    obtain ⟨rfl, h3⟩ := evs_ok hev h1
    obtain ⟨rfl, h4⟩ := evs_ok hev h2
    have e1 : first.map a.eval = (first.toList.map a.eval).toArray := by apply Array.ext'; simp
    have e2 : cap.map a.eval = (cap.toList.map a.eval).toArray := by apply Array.ext'; simp
    refine SemOk.value (SemOk.same H (v := .func fn (first.toList.map a.eval).toArray (cap.toList.map a.eval).toArray) ?_ ⟨_, _, rfl, h3, h4⟩)
    rw [e1, e2]
    rfl
  case slice t x lo hi mx =>
    cases mx with
    | some mx =>
      cases hi with
      | none => exact he.elim
      | some hi =>
        obtain ⟨r, rfl, he'⟩ := valO_run.1 he; clear he; have he := he'; clear he'
        simp only [run_bind, ev1, run_ofOpt] at he
        obtain ⟨s, _, ⟨h1, rfl⟩, l, _, h2, hh, _, ⟨h3, rfl⟩, m, _, ⟨h6, rfl⟩, he⟩ := he
        obtain ⟨rfl, h4⟩ := evo_ok hev h2
        exact (slice3S_ok H (hev _ _ h1) h4 (hev _ _ h3) (hev _ _ h6) he).value
    | none =>
      have he : (valO (do
        let v ← ev1 (evalS sl) x
        let l ← evo (evalS sl) lo
        let h ← evo (evalS sl) hi
        sliceS P t v l h)).Run env h out h' := by cases hi <;> exact he
      obtain ⟨r, rfl, he'⟩ := valO_run.1 he; clear he; have he := he'; clear he'
      simp only [run_bind, ev1, run_ofOpt] at he
      obtain ⟨s, _, ⟨h1, rfl⟩, l, _, h2, hh, _, h3, he⟩ := he
      obtain ⟨rfl, h4⟩ := evo_ok hev h2
      obtain ⟨rfl, h5⟩ := evo_ok hev h3
      exact (sliceS_ok H (hev _ _ h1) h4 h5 he).value
  case fieldAddr t x f =>
    obtain ⟨r, rfl, he'⟩ := valO_run.1 he; clear he; have he := he'; clear he'
    simp only [run_bind, ev1, run_ofOpt] at he
    obtain ⟨s, _, ⟨h1, rfl⟩, he⟩ := he
    exact (fieldS_ok H (hev _ _ h1) he).value
  case field t x f =>
    obtain ⟨r, rfl, he'⟩ := valO_run.1 he; clear he; have he := he'; clear he'
    simp only [run_bind, ev1, run_ofOpt] at he
    obtain ⟨s, _, ⟨h1, rfl⟩, he⟩ := he
    exact (fieldV_ok H (hev _ _ h1) he).value
  case indexAddr t x i =>
    obtain ⟨r, rfl, he'⟩ := valO_run.1 he; clear he; have he := he'; clear he'
    simp only [run_bind, ev1, run_ofOpt] at he
    obtain ⟨s, _, ⟨h1, rfl⟩, v, _, ⟨h2, rfl⟩, he⟩ := he
    exact (indexS_ok H (hev _ _ h1) (hev _ _ h2) he).value
  case index t x i =>
    obtain ⟨r, rfl, he'⟩ := valO_run.1 he; clear he; have he := he'; clear he'
    simp only [run_bind, ev1, run_ofOpt] at he
    obtain ⟨s, _, ⟨h1, rfl⟩, v, _, ⟨h2, rfl⟩, he⟩ := he
    exact (indexV_ok H (hev _ _ h1) (hev _ _ h2) he).value
  case makeChan t s =>
    obtain ⟨r, rfl, he'⟩ := valO_run.1 he; clear he; have he := he'; clear he'
    simp only [run_bind, ev1, run_ofOpt] at he
    obtain ⟨s, _, ⟨h1, rfl⟩, he⟩ := he
    exact (makeChanS_ok H (hev _ _ h1) he).value
  case makeMap t rr =>
    obtain ⟨r, rfl, he'⟩ := valO_run.1 he; clear he; have he := he'; clear he'
    simp only [run_bind] at he
    obtain ⟨l, _, h2, he⟩ := he
    obtain ⟨rfl, h4⟩ := evo_ok hev h2
    exact (makeMapS_ok H h4 he).value
  case makeSlice t l c =>
    obtain ⟨r, rfl, he'⟩ := valO_run.1 he; clear he; have he := he'; clear he'
    simp only [run_bind, ev1, run_ofOpt] at he
    obtain ⟨x, _, ⟨h1, rfl⟩, y, _, ⟨h2, rfl⟩, he⟩ := he
    exact (makeSliceS_ok H (hev _ _ h1) (hev _ _ h2) he).value
  case lookup t x i ok =>
    obtain ⟨r, rfl, he'⟩ := valO_run.1 he; clear he; have he := he'; clear he'
    simp only [run_bind, ev1, run_ofOpt] at he
    obtain ⟨s, _, ⟨h1, rfl⟩, v, _, ⟨h2, rfl⟩, he⟩ := he
    exact (lookupS_ok H (hev _ _ h1) (hev _ _ h2) he).value
  case mapUpdate t m k x =>
    simp only [run_bind, ev1, run_ofOpt, run_pure] at he
    obtain ⟨s1, _, ⟨h1, rfl⟩, s2, _, ⟨h2, rfl⟩, s3, _, ⟨h3, rfl⟩, _, _, he, rfl, rfl⟩ := he
    obtain ⟨w', g1, g2⟩ := updateS_ok H (hev _ _ h1) (hev _ _ h2) (hev _ _ h3) he
    exact ⟨.skip, w', ρ, by simp only [Sem.run_bind, g1, Result.andThen_ok, Sem.run_pure], PMap.le_refl ρ, fun n hn => .inl hn, g2, rfl⟩
  case insert t m k x =>
    simp only [run_bind, ev1, run_ofOpt, run_pure] at he
    obtain ⟨s1, _, ⟨h1, rfl⟩, s2, _, ⟨h2, rfl⟩, s3, _, ⟨h3, rfl⟩, _, _, he, rfl, rfl⟩ := he
    obtain ⟨w', g1, g2⟩ := updateS_ok H (hev _ _ h1) (hev _ _ h2) (hev _ _ h3) he
    exact ⟨.skip, w', ρ, by simp only [Sem.run_bind, g1, Result.andThen_ok, Sem.run_pure], PMap.le_refl ρ, fun n hn => .inl hn, g2, rfl⟩
  case typeAssert x xt t ok =>
    obtain ⟨r, rfl, he'⟩ := valO_run.1 he; clear he; have he := he'; clear he'
    simp only [run_bind, ev1, run_ofOpt] at he
    obtain ⟨s, _, ⟨h1, rfl⟩, he⟩ := he
    exact (assertS_ok H (hev _ _ h1) he).value
  case extract x i =>
    obtain ⟨r, rfl, he'⟩ := valO_run.1 he; clear he; have he := he'; clear he'
    simp only [run_bind, ev1, run_ofOpt] at he
    obtain ⟨s, _, ⟨h1, rfl⟩, he⟩ := he
    split at he
    · simp only [run_ofOpt] at he
      obtain ⟨h2, rfl⟩ := he
      have hr := hev _ _ h1
      simp only [SV.Rel] at hr
      obtain ⟨vs, hr, hvs⟩ := hr
      obtain ⟨u, h3, h4⟩ := hvs.get h2
      rw [hr]
      refine SemOk.value (SemOk.same H ?_ h4)
      simp [Instr.extract, h3]
    · exact he.elim
  case call c => exact callS_ok hP H hev he
  case defer c => exact deferS_ok H hev he

end
end Go.Sx
