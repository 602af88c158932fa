/-
  SX, PART 5g: every operation.
-/
import Derived.Test.YtdlppkhmmclipaaGreatSxMOpB
import Derived.Maps.RangeRun
namespace Go.Sx
open Go.RowKit
set_option linter.unusedVariables false
set_option linter.unusedSimpArgs false
section
variable {P : Program} {env : Env} {w0 : Anchor} {w : World} {ρ : af} {h h' : aL} {nm : Nat}
theorem cv {r : Nat} {es : Array MapEntry} {c : Nat} (h : w.heap[r]? = some (.map es c)) : (getObj r).run P w = .ok (.map es c) w := by simp [getObj, Sem.run, h]
theorem fG {r : Nat} {o : Obj} {es : Array MapEntry} {c : Nat} (h : w.heap[r]? = some (.map es c)) : (setObj r o).run P w = .ok () (w.bd r o) := by
 obtain ⟨cW, h2⟩ := Array.getElem?_eq_some_iff.1 h; simp [setObj, Sem.run, World.bd, Array.setIfInBounds, cW, h2]
theorem dq {kk : KK} {a b : Value} (ha : kk.ok a) (hb : kk.ok b) : cf a b = false ↔ a ≠ b := by
 have := eG ha hb; cases hk : cf a b with
 | true => simp [this.1 hk]
 | false =>
   simp only [true_iff]; intro e; rw [this.2 e] at hk; cases hk
theorem vR {d : TypeDesc} {kk : KK} (hk : yu d = some kk) {a b : Value} (ha : kk.ok a) (hb : kk.ok b) : Instr.sameNow d a b = some (cf b a) := by
 cases d <;> simp only [yu] at hk <;> first | (cases hk; done) | skip
 all_goals injection hk with hk; subst hk
 ·obtain ⟨x, rfl⟩ := ha; obtain ⟨y, rfl⟩ := hb; simp [Instr.sameNow, cf, Bool.beq_comm]
 ·obtain ⟨x, rfl⟩ := ha; obtain ⟨y, rfl⟩ := hb; simp [Instr.sameNow, cf, Bool.beq_comm, eq_comm]
 ·obtain ⟨x, rfl⟩ := ha; obtain ⟨y, rfl⟩ := hb; simp only [Instr.sameNow, cf, bytes_beq]; rw [Bool.beq_comm]
theorem kE {d : TypeDesc} {kk : KK} (hk : yu d = some kk) {key : Value} (ho : kk.ok key) : ∀ (es : List MapEntry) (i : Nat), (∀ e ∈ es, kk.ok e.key) ->
    (Instr.findNow d key es i = some none /\ gY es key = none /\ ∀ e ∈ es, e.key ≠ key) \/
    (∃ j e, es[j]? = some e /\ e.key = key /\ Instr.findNow d key es i = some (some (i + j, e.val)) /\ gY es key = some e.val)
 | [], i, _ => .inl ⟨rfl, rfl, fun e he => by cases he⟩
 | e :: es, i, h => by
   have he := h e (List.mem_cons_self ..); unfold Instr.findNow gY; rw [vR hk ho he]; cases hb : cf e.key key with
   | true => exact .inr ⟨0, e, rfl, (eG he ho).1 hb, rfl, rfl⟩
   | false =>
     have hne := (dq he ho).1 hb; rcases kE hk ho es (i + 1) (fun x hx => h x (List.mem_cons_of_mem _ hx)) with ⟨h1, h2, h3⟩ | ⟨j, x, h1, h2, h3, h4⟩
     ·exact .inl ⟨h1, h2, fun x hx => by rcases List.mem_cons.1 hx with rfl | hx; exact hne; exact h3 x hx⟩
     ·refine .inr ⟨j + 1, x, by simpa using h1, h2, ?_, h4⟩
      rw [show i + (j + 1) = i + 1 + j by omega]
      exact h3
theorem dz {kt : TypeId} {d : TypeDesc} (hd : P.underlying kt = some d) {key : Value} {es : List MapEntry} {r : Option (Nat × Value)} (h : Instr.findNow d key es 0 = some r) : (Instr.findKey kt key es).run P w = .ok r w := by
 simp [Instr.findKey, aN hd, h]
theorem cD {kt : TypeId} {d : TypeDesc} {kk : KK} (hd : P.underlying kt = some d) (hk : yu d = some kk) (b : Bool) (n : Nat) (key : Value) : (Instr.checkKey b (n + 1) kt key).run P w = .ok () w := by
 cases d <;> simp only [yu] at hk <;> first | (cases hk; done) | skip
 all_goals simp [Instr.checkKey, aN hd]
theorem r7 {kk : KK} {x : SV} {v : Value} (h : lj kk x = true) (hx : x.Rel env ρ v) : kk.ok v := by
 cases kk <;> cases x <;> simp only [lj] at h <;> try (cases h; done)
 all_goals simp only [SV.Rel] at hx
 ·rw [gA h]; exact ⟨_, hx⟩
 ·exact ⟨_, hx⟩
 ·exact ⟨_, hx⟩
theorem Qd {x y : SV} {e : E} (h : sW x y = some e) {a b : Value} (hx : x.Rel env ρ a) (hy : y.Rel env ρ b) : (e.den env).B = cf a b := by
 cases x <;> cases y <;> simp only [sW] at h <;> try (cases h; done)
 all_goals simp only [SV.Rel] at hx hy
 all_goals injection h with h; subst h; subst hx; subst hy
 all_goals rw [bn]; rfl
theorem rH {kk : KK} {key : SV} {kv0 : Value} (hkey : key.Rel env ρ kv0) : ∀ {known : List (SV × KV)} {kv : List (Value × Option Value)} {i : Nat} {r : Option Nat} {h h' : aL}, bM env ρ kk known kv ->
    (xB key known i).bx env h r h' -> h = h' /\ (r = none /\ (∀ q ∈ kv, cf q.1 kv0 = false) \/ ∃ j k x, r = some (i + j) /\ known[j]? = some (k, x) /\ ∃ a b, kv[j]? = some (a, b) /\ k.Rel env ρ a /\ cf a kv0 = true /\ (∀ m q, m < j -> kv[m]? = some q -> cf q.1 kv0 = false) /\
     x.Rel env ρ b)
 | [], kv, i, r, h, h', hk, he => by
   simp only [xB, aT] at he; obtain ⟨rfl, rfl⟩ := he; simp only [bM] at hk; subst hk; exact ⟨rfl, .inl ⟨rfl, fun q hq => by cases hq⟩⟩
 | (k, x) :: l, kv, i, r, h, h', hk, he => by
   obtain ⟨a, b, kr, rfl, hok, hka, hxb, hrest⟩ := hk; simp only [xB, run_bind, ae, gX] at he; obtain ⟨e, _, ⟨hke, rfl⟩, t, _, ⟨ht, rfl⟩, he⟩ := he; have hE := Qd hke hka hkey; rw [ht] at hE; cases t with
   | true =>
     simp only [run_pure] at he; obtain ⟨rfl, rfl⟩ := he; exact ⟨rfl, .inr ⟨0, k, x, rfl, rfl, a, b, rfl, hka, hE.symm, fun m q hm => by omega, hxb⟩⟩
   | false =>
     obtain ⟨e1, h2⟩ := rH hkey hrest he; subst e1; refine ⟨rfl, ?_⟩; rcases h2 with ⟨h3, h4⟩ | ⟨j, k', x', h3, h4, a', b', h5, h6, h7, h8, h9⟩
     ·exact .inl ⟨h3, fun q hq => by rcases List.mem_cons.1 hq with rfl | hq; exact hE.symm; exact h4 q hq⟩
     ·refine .inr ⟨j + 1, k', x', by rw [h3]; congr 1; omega, by simpa using h4, a', b', by simpa using h5, h6, h7, fun m q hm hq => ?_, h9⟩
      cases m with
      | zero => simp at hq; subst hq; exact hE.symm
      | succ m => exact h8 m q (by omega) (by simpa using hq)
theorem wa {x : KV} {o : Option Value} (hx : x.Rel env ρ o) {q : Option SV} {h h' : aL} (he : (wL x).bx env h q h') : h = h' /\ ((∃ y v, q = some y /\ o = some v /\ y.Rel env ρ v) \/ (q = none /\ o = none)) := by
 cases x with
 | no => simp only [wL, aT] at he; exact ⟨he.2, .inr ⟨he.1.symm, hx⟩⟩
 | yes x => simp only [wL, aT] at he; obtain ⟨v, e, r⟩ := hx; exact ⟨he.2, .inl ⟨x, v, he.1.symm, e, r⟩⟩
 | may b x =>
   simp only [wL, run_bind, gX] at he; obtain ⟨t, _, ⟨ht, rfl⟩, he⟩ := he; simp only [KV.Rel] at hx; rw [ht] at hx; cases t with
   | true => simp only [run_pure] at he; obtain ⟨v, e, r⟩ := hx; exact ⟨he.2, .inl ⟨x, v, he.1.symm, e, r⟩⟩
   | false => simp only [run_pure] at he; exact ⟨he.2, .inr ⟨he.1.symm, hx⟩⟩
theorem px : ∀ {kv : List (Value × Option Value)} {r : Value -> Option Value} {k : Value}, (∀ q ∈ kv, cf q.1 k = false) -> cont kv r k = r k
 | [], r, k, _ => rfl
 | (a, b) :: l, r, k, h => by
   unfold cont; rw [h (a, b) (List.mem_cons_self ..)]; exact px fun q hq => h q (List.mem_cons_of_mem _ hq)
theorem sa : ∀ {kv : List (Value × Option Value)} {r : Value -> Option Value} {k a : Value} {b : Option Value} {j : Nat}, kv[j]? = some (a, b) -> cf a k = true -> (∀ m q, m < j -> kv[m]? = some q -> cf q.1 k = false) -> cont kv r k = b
 | [], _, _, _, _, _, h, _, _ => by simp at h
 | (a', b') :: l, r, k, a, b, 0, h, hk, _ => by
   simp at h; obtain ⟨rfl, rfl⟩ := h; unfold cont; rw [hk]; rfl
 | (a', b') :: l, r, k, a, b, j + 1, h, hk, hm => by
   unfold cont; rw [hm 0 (a', b') (by omega) rfl]
   exact sa (by simpa using h) hk fun m q hmj hq => hm (m + 1) q (by omega) (by simpa using hq)
theorem xb {kk : KK} : ∀ {kv : List (Value × Option Value)} {r : Value -> Option Value} {k0 k a : Value} {b b' : Option Value} {j : Nat}, kk.ok k0 -> kk.ok k -> (∀ q ∈ kv, kk.ok q.1) -> kv[j]? = some (a, b) -> cf a k0 = true ->
    (∀ m q, m < j -> kv[m]? = some q -> cf q.1 k0 = false) -> cont (kv.set j (a, b')) r k = cond (cf k0 k) b' (cont kv r k)
 | [], _, _, _, _, _, _, _, _, _, _, h, _, _ => by simp at h
 | (a', b0) :: l, r, k0, k, a, b, b', 0, ho, hok, cJ, h, hk, _ => by
   simp at h; obtain ⟨rfl, rfl⟩ := h; have e : a' = k0 := (eG (cJ _ (List.mem_cons_self ..)) ho).1 hk; subst e; simp only [List.set_cons_zero, cont]; cases cf a' k <;> rfl
 | (a', b0) :: l, r, k0, k, a, b, b', j + 1, ho, hok, cJ, h, hk, hm => by
   have ha' := cJ _ (List.mem_cons_self ..); have hne := (dq ha' ho).1 (hm 0 (a', b0) (by omega) rfl)
   have ih := xb (kv := l) (r := r) (k := k) (b' := b') ho hok (fun q hq => cJ q (List.mem_cons_of_mem _ hq)) (by simpa using h) hk fun m q hmj hq => hm (m + 1) q (by omega) (by simpa using hq)
   simp only [List.set_cons_succ, cont, ih]; cases h1 : cf a' k with
   | false => rfl
   | true =>
     have : a' = k := (eG ha' hok).1 h1; subst this; have : cf k0 a' = false := (dq ho ha').2 (Ne.symm hne); rw [this]; rfl
theorem Iw {kv : List (Value × Option Value)} {r : Value -> Option Value} {k0 k : Value} {b' : Option Value} (hmiss : ∀ q ∈ kv, cf q.1 k0 = false) {kk : KK} (ho : kk.ok k0) (hok : kk.ok k) (cJ : ∀ q ∈ kv, kk.ok q.1) :
    cont (kv ++ [(k0, b')]) r k = cond (cf k0 k) b' (cont kv r k) := by
 induction kv with
 | nil => rfl
 | cons q l ih =>
   obtain ⟨a, b⟩ := q; have ih := ih (fun q hq => hmiss q (List.mem_cons_of_mem _ hq)) (fun q hq => cJ q (List.mem_cons_of_mem _ hq)); simp only [List.cons_append, cont, ih]; cases h1 : cf a k with
   | false => rfl
   | true =>
     have ha := cJ _ (List.mem_cons_self ..); have hm := hmiss _ (List.mem_cons_self ..); have : a = k := (eG ha hok).1 h1; subst this; have : cf k0 a = false := (dq ho ha).2 (Ne.symm ((dq ha ho).1 hm)); rw [this]; rfl
theorem bM.keys {kk : KK} : ∀ {l : List (SV × KV)} {kv : List (Value × Option Value)}, bM env ρ kk l kv -> ∀ q ∈ kv, kk.ok q.1
 | [], kv, h, q, hq => by simp only [bM] at h; subst h; cases hq
 | (k, x) :: l, kv, ⟨a, b, r, e, h1, h2, h3, h4⟩, q, hq => by
   subst e; rcases List.mem_cons.1 hq with rfl | hq
   ·exact h1
   ·exact bM.keys h4 q hq
theorem bM.set {kk : KK} {x' : KV} {b' : Option Value} (hx : KV.Rel env ρ x' b') : ∀ {l : List (SV × KV)} {kv : List (Value × Option Value)} {j : Nat} {k : SV} {x : KV} {a : Value} {b : Option Value},
    bM env ρ kk l kv -> l[j]? = some (k, x) -> kv[j]? = some (a, b) -> bM env ρ kk (l.set j (k, x')) (kv.set j (a, b'))
 | [], kv, j, _, _, _, _, h, h1, _ => by simp at h1
 | (k0, x0) :: l, kv, j, k, x, a, b, ⟨a0, b0, r, e, h1, h2, h3, h4⟩, hl, hv => by
   subst e; cases j with
   | zero =>
     simp at hl hv; obtain ⟨rfl, rfl⟩ := hl; obtain ⟨rfl, rfl⟩ := hv; exact ⟨_, _, _, rfl, h1, h2, hx, h4⟩
   | succ j => exact ⟨_, _, _, rfl, h1, h2, h3, bM.set hx h4 (by simpa using hl) (by simpa using hv)⟩
theorem bM.snoc {kk : KK} {k : SV} {a : Value} {x' : KV} {b' : Option Value} (hk : kk.ok a) (hka : k.Rel env ρ a) (hx : KV.Rel env ρ x' b') : ∀ {l : List (SV × KV)} {kv : List (Value × Option Value)},
    bM env ρ kk l kv -> bM env ρ kk (l ++ [(k, x')]) (kv ++ [(a, b')])
 | [], kv, h => by simp only [bM] at h; subst h; exact ⟨_, _, _, rfl, hk, hka, hx, rfl⟩
 | (k0, x0) :: l, kv, ⟨a0, b0, r, e, h1, h2, h3, h4⟩ => by subst e; exact ⟨_, _, _, rfl, h1, h2, h3, bM.snoc hk hka hx h4⟩
theorem kL {t : TypeId} {d : KK × TypeId} : (AF P t).bx env h d h' ↔ (∃ kt kd, P.underlying t = some (.map kt d.2) /\ P.underlying kt = some kd /\ yu kd = some d.1) /\ h = h' := by
 obtain ⟨kk, el⟩ := d; simp only [AF, run_bind, bF]; constructor
 ·rintro ⟨u, _, ⟨hu, rfl⟩, h2⟩; split at h2
  ·rename_i kt el'; simp only [run_bind, bF, ae, run_pure] at h2; obtain ⟨kd, _, ⟨hd, rfl⟩, k2, _, ⟨hk, rfl⟩, e, rfl⟩ := h2; injection e with e1 e2; subst e1; subst e2; exact ⟨⟨kt, kd, hu, hd, hk⟩, rfl⟩
  ·exact h2.elim
 ·rintro ⟨⟨kt, kd, hu, hd, hk⟩, rfl⟩; refine ⟨_, _, ⟨hu, rfl⟩, ?_⟩; simp only [run_bind, bF, ae, run_pure]; exact ⟨kd, _, ⟨hd, rfl⟩, kk, _, ⟨hk, rfl⟩, rfl, rfl⟩
theorem Gv (H : az env w0 ρ h w) {t : TypeId} {x key r : SV} {v u : Value} {ok : Bool} (hx : x.Rel env ρ v) (hk : key.Rel env ρ u) (he : (Ad P t x key ok).bx env h r h') :
    aF P env w0 ρ nm h' w (Instr.lookup t v u ok) r := by
 simp only [Ad, run_bind, kL, aq, gP] at he; obtain ⟨⟨kk, el⟩, _, ⟨⟨kt, kd, hu, hd, hkk⟩, rfl⟩, _, _, ⟨hko, rfl⟩, z, _, ⟨hz, rfl⟩, he⟩ := he; simp only at hu hkk hko hz he; have huk : kk.ok u := r7 hko hk; obtain ⟨zv, hzr, hzx⟩ := AI (ρ := ρ) (env := env) hz w
 have give : ∀ {y : SV} {b : Bool} {yv : Value} {hh : aL}, y.Rel env ρ yv -> (cond ok (Prog.ret (SV.fq [y, .bool (.bl b)])) (Prog.ret y)).bx env hh r h' -> hh = h' /\ r.Rel env ρ (if ok = true then .tuple #[yv, .bool b] else yv) := by
  intro y b yv hh hy hr; cases ok with
  | true => simp only [cond_true, aT] at hr; obtain ⟨rfl, rfl⟩ := hr; exact ⟨rfl, [yv, .bool b], rfl, _, _, rfl, hy, _, _, rfl, rfl, rfl⟩
  | false => simp only [cond_false, aT] at hr; obtain ⟨rfl, rfl⟩ := hr; exact ⟨rfl, hy⟩
 split at he
 ·obtain ⟨rfl, hr⟩ := give hzx he; simp only [SV.Rel] at hx; subst hx; refine aF.same H ?_ hr; simp [Instr.lookup, aN hu, cD hd hkk, dz hd (show Instr.findNow kd u [] 0 = some none from rfl), hzr]
 ·rename_i n; simp only [run_bind, aU] at he; obtain ⟨o, _, ⟨ho, rfl⟩, he⟩ := he; simp only [SV.Rel] at hx; obtain ⟨p, hp, rfl⟩ := hx; split at he
  ·rename_i m ix kk' sz known; simp only [run_bind, aq] at he; obtain ⟨_, _, ⟨hkk', rfl⟩, i, _, hf, he⟩ := he; have := c9 hkk'; subst this; obtain ⟨q, es, clk, kv, h1, h2, h3, h4, h5, h6, h7, h8, h9⟩ := H.bk n _ ho; rw [hp] at h1; injection h1 with h1; subst h1; obtain ⟨rfl, As⟩ := rH hk h8 hf; have hlook := h9 u huk
   have main : ∀ {val : Value} {b : Bool}, (b = true /\ cont kv (res env m (ix.den env).I) u = some val \/ b = false /\ val = zv /\ cont kv (res env m (ix.den env).I) u = none) ->
       (Instr.lookup t (.map (some p.block)) u ok).run P w = .ok (if ok = true then .tuple #[val, .bool b] else val) w := by
    intro val b hc; rcases kE hkk huk es.toList 0 h6.keys with ⟨g1, g2, _⟩ | ⟨j, e, g1, g2, g3, g4⟩
    ·rcases hc with ⟨_, hc⟩ | ⟨rfl, rfl, _⟩
     ·rw [<- hlook, g2] at hc; cases hc
     ·simp only [Instr.lookup, Sem.run_bind, aN hu, Result.andThen_ok, cv h5, Sem.run_pure, cD hd hkk, dz hd g1, hzr]
    ·rcases hc with ⟨rfl, hc⟩ | ⟨_, _, hc⟩
     ·rw [<- hlook, g4] at hc; injection hc with hc; subst hc; simp only [Instr.lookup, Sem.run_bind, aN hu, Result.andThen_ok, cv h5, Sem.run_pure, cD hd hkk, dz hd g3]
     ·rw [<- hlook, g4] at hc; cases hc
   rcases As with ⟨rfl, hmiss⟩ | ⟨j, k, y, rfl, hkn, a, b, hkv, hka, hke, hm, hyb⟩
   ·simp only [run_bind, aq] at he; obtain ⟨_, _, ⟨tJ, rfl⟩, he⟩ := he; have tJ := Nat.eq_of_beq_eq_true tJ; subst tJ; obtain ⟨rfl, hr⟩ := give hzx he; refine aF.same H (main (.inr ⟨rfl, rfl, ?_⟩)) hr; rw [px hmiss]; rfl
   ·simp only [run_bind, ae] at he; obtain ⟨y', _, ⟨hy', rfl⟩, q, _, hq, he⟩ := he; rw [Nat.zero_add, hkn] at hy'; injection hy' with hy'; subst hy'; have hc := sa (r := res env m (ix.den env).I) hkv hke hm; obtain ⟨rfl, hkw⟩ := wa hyb hq; rcases hkw with ⟨y1, yv, rfl, rfl, hy1⟩ | ⟨rfl, rfl⟩
    ·obtain ⟨rfl, hr⟩ := give hy1 he; exact aF.same H (main (.inl ⟨rfl, hc⟩)) hr
    ·obtain ⟨rfl, hr⟩ := give hzx he; exact aF.same H (main (.inr ⟨rfl, rfl, hc⟩)) hr
  ·exact he.elim
 ·exact he.elim
theorem Ag {kk : KK} {clk : Nat} {es : List MapEntry} (hm : jM kk es clk) {j : Nat} {e e' : MapEntry} (hj : es[j]? = some e) (hkey : e'.key = e.key) {k : Value} (hk : kk.ok k) :
    gY (es.set j e') k = cond (cf e.key k) (some e'.val) (gY es k) := by
 induction es generalizing j with
 | nil => simp at hj
 | cons x l ih =>
   have hx := hm.keys x (List.mem_cons_self ..); cases j with
   | zero =>
     simp at hj; subst hj; simp only [List.set_cons_zero, gY, hkey]; cases cf x.key k <;> rfl
   | succ j =>
     have hj' : l[j]? = some e := by simpa using hj
     have hml : jM kk l clk := ⟨fun e he => hm.keys e (List.mem_cons_of_mem _ he), (List.pairwise_cons.1 hm.nodup).2, fun e he => hm.born e (List.mem_cons_of_mem _ he), (List.pairwise_cons.1 hm.apart).2⟩; have hme := List.mem_of_getElem? hj'; have hne := (List.pairwise_cons.1 hm.nodup).1 e hme; simp only [List.set_cons_succ, gY, ih hml hj']; cases h1 : cf x.key k with
     | false => rfl
     | true =>
       have : x.key = k := (eG hx hk).1 h1; have he := hm.keys e (List.mem_cons_of_mem _ hme); have : cf e.key k = false := (dq he hk).2 (fun e' => hne (this.trans e'.symm)); rw [this]; rfl
theorem sx {kk : KK} {clk : Nat} {es : List MapEntry} (hm : jM kk es clk) {j : Nat} {e e' : MapEntry} (hj : es[j]? = some e) (hkey : e'.key = e.key) (hborn : e'.born = e.born) : jM kk (es.set j e') clk := by
 refine ⟨fun x hx => ?_, ?_, fun x hx => ?_, ?_⟩
 ·rcases List.mem_or_eq_of_mem_set hx with h | rfl
  ·exact hm.keys x h
  ·rw [hkey]; exact hm.keys e (List.mem_of_getElem? hj)
 ·have h1 : (es.set j e').map (·.key) = es.map (·.key) := by
    rw [List.map_set]; apply List.ext_getElem?
    intro i; rw [List.getElem?_set]
    by_cases e1 : j = i
    ·subst e1; rw [if_pos rfl, hkey]; split
     ·rw [List.getElem?_map, hj]; rfl
     ·rename_i hn; rw [List.getElem?_eq_none (by simpa using hn)]
    ·rw [if_neg e1]
  have h2 : (es.map (·.key)).Pairwise (· ≠ ·) := List.pairwise_map.2 hm.nodup; rw [<- h1] at h2; exact List.pairwise_map.1 h2
 ·rcases List.mem_or_eq_of_mem_set hx with h | rfl
  ·exact hm.born x h
  ·rw [hborn]; exact hm.born e (List.mem_of_getElem? hj)
 ·have h1 : (es.set j e').map (·.born) = es.map (·.born) := by
    rw [List.map_set]; apply List.ext_getElem?
    intro i; rw [List.getElem?_set]
    by_cases e1 : j = i
    ·subst e1; rw [if_pos rfl, hborn]; split
     ·rw [List.getElem?_map, hj]; rfl
     ·rename_i hn; rw [List.getElem?_eq_none (by simpa using hn)]
    ·rw [if_neg e1]
  have h2 : (es.map (·.born)).Pairwise (· ≠ ·) := List.pairwise_map.2 hm.apart; rw [<- h1] at h2; exact List.pairwise_map.1 h2
theorem CT {kk : KK} {clk : Nat} {es : List MapEntry} (hm : jM kk es clk) {j : Nat} {e : MapEntry} (hj : es[j]? = some e) {k : Value} (hk : kk.ok k) :
    gY (es.eraseIdx j) k = cond (cf e.key k) none (gY es k) := by
 induction es generalizing j with
 | nil => simp at hj
 | cons x l ih =>
   have hx := hm.keys x (List.mem_cons_self ..); have hml : jM kk l clk := ⟨fun e he => hm.keys e (List.mem_cons_of_mem _ he), (List.pairwise_cons.1 hm.nodup).2, fun e he => hm.born e (List.mem_cons_of_mem _ he), (List.pairwise_cons.1 hm.apart).2⟩; cases j with
   | zero =>
     simp at hj; subst hj; simp only [List.eraseIdx_zero, List.tail_cons, gY]; cases h1 : cf x.key k with
     | false => rfl
     | true =>
       have hxk : x.key = k := (eG hx hk).1 h1; show gY l k = none
       have : ∀ (l : List MapEntry), (∀ e ∈ l, x.key ≠ e.key) -> (∀ e ∈ l, kk.ok e.key) -> gY l k = none := by
        intro l
        induction l with
        | nil => intros; rfl
        | cons y l ih =>
          intro h1 h2; unfold gY; rw [(dq (h2 y (List.mem_cons_self ..)) hk).2 (fun e => h1 y (List.mem_cons_self ..) (hxk.trans e.symm))]; exact ih (fun e he => h1 e (List.mem_cons_of_mem _ he)) (fun e he => h2 e (List.mem_cons_of_mem _ he))
       exact this l (List.pairwise_cons.1 hm.nodup).1 hml.keys
   | succ j =>
     have hj' : l[j]? = some e := by simpa using hj
     have hme := List.mem_of_getElem? hj'; have hne := (List.pairwise_cons.1 hm.nodup).1 e hme; simp only [List.eraseIdx_cons_succ, gY, ih hml hj']; cases h1 : cf x.key k with
     | false => rfl
     | true =>
       have hxk : x.key = k := (eG hx hk).1 h1; have he := hm.keys e (List.mem_cons_of_mem _ hme); have : cf e.key k = false := (dq he hk).2 (fun e' => hne (hxk.trans e'.symm)); rw [this]; rfl
theorem uC {kk : KK} {clk : Nat} {es : List MapEntry} (hm : jM kk es clk) (j : Nat) : jM kk (es.eraseIdx j) clk :=
 ⟨fun x hx => hm.keys x (List.mem_of_mem_eraseIdx hx), hm.nodup.sublist (List.eraseIdx_sublist ..), fun x hx => hm.born x (List.mem_of_mem_eraseIdx hx), hm.apart.sublist (List.eraseIdx_sublist ..)⟩
theorem Fv {kk : KK} {clk : Nat} {es : List MapEntry} (hm : jM kk es clk) {e : MapEntry} (he : kk.ok e.key) (hno : ∀ x ∈ es, x.key ≠ e.key) {k : Value} (hk : kk.ok k) : gY (es ++ [e]) k = cond (cf e.key k) (some e.val) (gY es k) := by
 induction es with
 | nil => rfl
 | cons x l ih =>
   have hx := hm.keys x (List.mem_cons_self ..); have hml : jM kk l clk := ⟨fun e he => hm.keys e (List.mem_cons_of_mem _ he), (List.pairwise_cons.1 hm.nodup).2, fun e he => hm.born e (List.mem_cons_of_mem _ he), (List.pairwise_cons.1 hm.apart).2⟩; simp only [List.cons_append, gY, ih hml fun y hy => hno y (List.mem_cons_of_mem _ hy)]; cases h1 : cf x.key k with
   | false => rfl
   | true =>
     have hxk : x.key = k := (eG hx hk).1 h1; have : cf e.key k = false := (dq he hk).2 (fun e' => hno x (List.mem_cons_self ..) (hxk.trans e'.symm)); rw [this]; rfl
theorem wF {kk : KK} {clk : Nat} {es : List MapEntry} (hm : jM kk es clk) {e : MapEntry} (he : kk.ok e.key) (hno : ∀ x ∈ es, x.key ≠ e.key) (hb : e.born = clk) : jM kk (es ++ [e]) (clk + 1) := by
 refine ⟨fun x hx => ?_, ?_, fun x hx => ?_, ?_⟩
 ·rcases List.mem_append.1 hx with h | h
  ·exact hm.keys x h
  ·rw [List.mem_singleton.1 h]; exact he
 ·refine List.pairwise_append.2 ⟨hm.nodup, List.pairwise_singleton .., fun a ha b hb => ?_⟩; rw [List.mem_singleton.1 hb]; exact hno a ha
 ·rcases List.mem_append.1 hx with h | h
  ·have := hm.born x h; omega
  ·rw [List.mem_singleton.1 h, hb]; omega
 ·refine List.pairwise_append.2 ⟨hm.apart, List.pairwise_singleton .., fun a ha b hb' => ?_⟩; rw [List.mem_singleton.1 hb', hb]; have := hm.born a ha; omega
theorem CV {a : Value} {kk : KK} (h : kk.ok a) : (Instr.keyThatStays a a).run P w = .ok a w := by
 cases kk with
 | int k => obtain ⟨x, rfl⟩ := h; simp [Instr.keyThatStays, Instr.sameBits]
 | bool => obtain ⟨x, rfl⟩ := h; simp [Instr.keyThatStays, Instr.sameBits]
 | str => obtain ⟨x, rfl⟩ := h; simp [Instr.keyThatStays, Instr.sameBits, bytes_beq]
theorem Ga (H : az env w0 ρ h w) {t : TypeId} {x key y : SV} {v u yv : Value} {r : Unit} (hx : x.Rel env ρ v) (hk : key.Rel env ρ u) (hy : y.Rel env ρ yv) (he : (Aj P t x key y).bx env h r h') :
    ∃ w', (Instr.mapUpdate t v u yv).run P w = .ok () w' /\ az env w0 ρ h' w' := by
 simp only [Aj, run_bind, kL, aq] at he; obtain ⟨⟨kk, el⟩, _, ⟨⟨kt, kd, hu, hd, hkk⟩, rfl⟩, _, _, ⟨hko, rfl⟩, he⟩ := he; simp only at hu hkk hko he; have huk : kk.ok u := r7 hko hk; split at he
 ·rename_i n; simp only [run_bind, aU] at he; obtain ⟨o, _, ⟨ho, rfl⟩, he⟩ := he; simp only [SV.Rel] at hx; obtain ⟨p, hp, rfl⟩ := hx; split at he
  ·rename_i m ix kk' sz known; simp only [run_bind, aq] at he; obtain ⟨_, _, ⟨hkk', rfl⟩, i, _, hf, he⟩ := he; have := c9 hkk'; subst this; obtain ⟨q, es, clk, kv, h1, h2, h3, h4, h5, h6, h7, h8, h9⟩ := H.bk n _ ho; rw [hp] at h1; injection h1 with h1; subst h1; obtain ⟨rfl, As⟩ := rH hk h8 hf; have hlook := h9 u huk; have hkvk := h8.keys; have I1 : ((E.il 1).den env).I = 1 := rfl
   have put : ∀ {known' : List (SV × KV)} {kv' : List (Value × Option Value)}, bM env ρ kk' known' kv' -> (∀ k, kk'.ok k -> cont kv' (res env m (ix.den env).I) k = cond (cf u k) (some yv) (cont kv (res env m (ix.den env).I) k)) ->
       (∀ {sz' : E}, (sz'.den env).I = (if (cont kv (res env m (ix.den env).I) u).isSome then (sz.den env).I else (sz.den env).I + 1) ->
       ∃ w', (Instr.mapUpdate t (.map (some p.block)) u yv).run P w = .ok () w' /\ az env w0 ρ (bf h n (.map m ix kk' sz' known')) w') := by
    intro known' kv' hkr hc sz' hsz; rcases kE hkk huk es.toList 0 h6.keys with ⟨g1, g2, g3⟩ | ⟨j, e, g1, g2, g3, g4⟩
    ·rw [<- hlook, g2] at hsz
     have hrun : (Instr.mapUpdate t (.map (some p.block)) u yv).run P w = .ok () (w.bd p.block (.map (es.push { key := u, val := yv, born := clk }) (clk + 1))) := by
      simp only [Instr.mapUpdate, Sem.run_bind, aN hu, Result.andThen_ok, cv h5, cD hd hkk, dz hd g1, fG h5]
     refine ⟨_, hrun, H.update ho rfl hp rfl ⟨p, _, _, kv', hp, h2, h3, h4, bq h5, ?_, ?_, hkr, fun k hk => ?_⟩⟩
     ·rw [Array.toList_push]; exact wF h6 huk g3 rfl
     ·rw [hsz, <- h7]; simp
     ·rw [Array.toList_push, Fv h6 (e := { key := u, val := yv, born := clk }) huk g3 hk, hc k hk, h9 k hk]
    ·rw [<- hlook, g4] at hsz; rw [Nat.zero_add] at g3; have gj : es[j]? = some e := by rw [<- Array.getElem?_toList]; exact g1
     have hjl : j < es.size := (Array.getElem?_eq_some_iff.1 gj).1; have hej : es[j] = e := by have := Array.getElem?_eq_getElem hjl; rw [gj] at this; exact (Option.some.inj this).symm
     have hrun : (Instr.mapUpdate t (.map (some p.block)) u yv).run P w = .ok () (w.bd p.block (.map (es.modify j fun e => { e with key := u, val := yv }) clk)) := by
      simp only [Instr.mapUpdate, Sem.run_bind, aN hu, Result.andThen_ok, cv h5, cD hd hkk, dz hd g3, gj, Option.map_some, Option.getD_some, g2, CV huk, fG h5]
     have hmod : (es.modify j fun e => { e with key := u, val := yv }).toList = es.toList.set j { e with key := u, val := yv } := by
      apply List.ext_getElem?
      intro i; rw [Array.getElem?_toList, Array.getElem?_modify, List.getElem?_set, Array.getElem?_toList]
      by_cases e1 : j = i
      ·subst e1; simp [gj, hjl, hej]
      ·simp [e1]
     refine ⟨_, hrun, H.update ho rfl hp rfl ⟨p, _, _, kv', hp, h2, h3, h4, bq h5, ?_, ?_, hkr, fun k hk => ?_⟩⟩
     ·rw [hmod]; exact sx h6 g1 g2.symm rfl
     ·rw [hsz, <- h7]; simp
     ·rw [hmod, Ag h6 g1 (e' := { e with key := u, val := yv }) g2.symm hk, hc k hk, h9 k hk, g2]
   rcases As with ⟨rfl, hmiss⟩ | ⟨j, k, y', rfl, hkn, a, b, hkv, hka, hke, hm, hyb⟩
   ·simp only [run_bind, aq, bD] at he; obtain ⟨_, _, ⟨tJ, rfl⟩, rfl⟩ := he; have tJ := Nat.eq_of_beq_eq_true tJ; subst tJ; refine put (h8.snoc huk hk (x' := .yes y) (b' := some yv) ⟨yv, rfl, hy⟩) (fun k hk => Iw hmiss huk hk hkvk) ?_; rw [px hmiss, jA]; rfl
   ·simp only [run_bind, ae] at he; obtain ⟨y2, _, ⟨hy', rfl⟩, q2, _, hq2, he⟩ := he; rw [Nat.zero_add, hkn] at hy'; injection hy' with hy'; subst hy'; have hc := sa (r := res env m (ix.den env).I) hkv hke hm; have hset := fun k hk => xb (r := res env m (ix.den env).I) (b' := some yv) (k := k) huk hk hkvk hkv hke hm; obtain ⟨rfl, hkw⟩ := wa hyb hq2; rcases hkw with ⟨y1, bv, rfl, rfl, hy1⟩ | ⟨rfl, rfl⟩
    ·simp only [bD] at he; subst he; rw [Nat.zero_add]; refine put (h8.set (x' := .yes y) (b' := some yv) ⟨yv, rfl, hy⟩ hkn hkv) hset ?_; rw [hc]; rfl
    ·simp only [bD] at he; subst he; rw [Nat.zero_add]; refine put (h8.set (x' := .yes y) (b' := some yv) ⟨yv, rfl, hy⟩ hkn hkv) hset ?_; rw [hc, jA]; rfl
  ·exact he.elim
 ·exact he.elim
theorem EM (H : az env w0 ρ h w) {t t2 ty : TypeId} {x key r : SV} {v u : Value} (hx : x.Rel env ρ v) (hk : key.Rel env ρ u) (he : (zT P t x key).bx env h r h') :
    aF P env w0 ρ nm h' w (Builtin.delete_ #[t, t2] ty #[v, u]) r := by
 simp only [zT, run_bind, kL, aq] at he; obtain ⟨⟨kk, el⟩, _, ⟨⟨kt, kd, hu, hd, hkk⟩, rfl⟩, _, _, ⟨hko, rfl⟩, he⟩ := he; simp only at hu hkk hko he; have huk : kk.ok u := r7 hko hk; split at he
 ·simp only [run_pure] at he; obtain ⟨rfl, rfl⟩ := he; simp only [SV.Rel] at hx; subst hx; refine aF.same H (v := .tuple #[]) ?_ ⟨[], rfl, rfl⟩; simp [Builtin.delete_, aN hu, cD hd hkk]
 ·rename_i n; simp only [run_bind, aU] at he; obtain ⟨o, _, ⟨ho, rfl⟩, he⟩ := he; simp only [SV.Rel] at hx; obtain ⟨p, hp, rfl⟩ := hx; split at he
  ·rename_i m ix kk' sz known; simp only [run_bind, aq] at he; obtain ⟨_, _, ⟨hkk', rfl⟩, i, _, hf, he⟩ := he; have := c9 hkk'; subst this; obtain ⟨q, es, clk, kv, h1, h2, h3, h4, h5, h6, h7, h8, h9⟩ := H.bk n _ ho; rw [hp] at h1; injection h1 with h1; subst h1; obtain ⟨rfl, As⟩ := rH hk h8 hf; have hlook := h9 u huk; have hkvk := h8.keys
   have start : ∀ {o2 : Obj} {rr : Option (Nat × Value)}, Instr.findNow kd u es.toList 0 = some rr -> (o2 = match rr with | some (i, _) => .map (es.eraseIdxIfInBounds i) clk | none => .map es clk) ->
       (Builtin.delete_ #[t, t2] ty #[.map (some p.block), u]).run P w = .ok (.tuple #[]) (w.bd p.block o2) := by
    intro o2 rr hr ho2; subst ho2; cases rr with
    | none => simp [Builtin.delete_, aN hu, cv h5, cD hd hkk, dz hd hr, fG h5]
    | some x => simp [Builtin.delete_, aN hu, cv h5, cD hd hkk, dz hd hr, fG h5]
   have same : cont kv (res env m (ix.den env).I) u = none -> aF P env w0 ρ nm h w (Builtin.delete_ #[t, t2] ty #[.map (some p.block), u]) (.fq []) := by
    intro hc; rcases kE hkk huk es.toList 0 h6.keys with ⟨g1, g2, g3⟩ | ⟨j, e, g1, g2, g3, g4⟩
    ·refine ⟨.tuple #[], _, ρ, start g1 rfl, af.le_refl ρ, fun n hn => .inl hn, ?_, [], rfl, rfl⟩; have := H.update ho rfl hp (o' := .map m ix kk' sz known) (b := .map es clk) rfl ⟨p, es, clk, kv, hp, h2, h3, h4, bq h5, h6, h7, h8, h9⟩; refine this.ext fun k => ?_; rw [ai]
     by_cases e : k = n
     ·subst e; rw [if_pos rfl]; exact ho.symm
     ·rw [if_neg e]
    ·rw [<- hlook, g4] at hc; cases hc
   rcases As with ⟨rfl, hmiss⟩ | ⟨j, k, y', rfl, hkn, a, b, hkv, hka, hke, hm, hyb⟩
   ·simp only [run_bind, aq, run_pure] at he; obtain ⟨_, _, ⟨tJ, rfl⟩, rfl, rfl⟩ := he; have tJ := Nat.eq_of_beq_eq_true tJ; subst tJ; exact same (by rw [px hmiss]; rfl)
   ·simp only [run_bind, ae] at he; obtain ⟨y2, _, ⟨hy', rfl⟩, q2, _, hq2, he⟩ := he; rw [Nat.zero_add, hkn] at hy'; injection hy' with hy'; subst hy'; have hc := sa (r := res env m (ix.den env).I) hkv hke hm; obtain ⟨rfl, hkw⟩ := wa hyb hq2; rcases hkw with ⟨y1, bv, rfl, rfl, hy1⟩ | ⟨rfl, rfl⟩
    ·simp only [run_bind, bD, run_pure] at he; obtain ⟨_, _, rfl, rfl, rfl⟩ := he
     ·rcases kE hkk huk es.toList 0 h6.keys with ⟨g1, g2, g3⟩ | ⟨i, e, g1, g2, g3, g4⟩
      ·rw [hlook, hc] at g2; cases g2
      ·rw [Nat.zero_add] at g3; have gi : es[i]? = some e := by rw [<- Array.getElem?_toList]; exact g1
       have hil : i < es.size := (Array.getElem?_eq_some_iff.1 gi).1
       have her : (es.eraseIdxIfInBounds i).toList = es.toList.eraseIdx i := by
        unfold Array.eraseIdxIfInBounds; rw [dif_pos hil, Array.toList_eraseIdx]
       refine ⟨.tuple #[], _, ρ, start g3 rfl, af.le_refl ρ, fun n hn => .inl hn, ?_, [], rfl, rfl⟩; refine H.update ho rfl hp rfl ⟨p, _, _, kv.set j (a, none), hp, h2, h3, h4, bq h5, ?_, ?_, by rw [Nat.zero_add]; exact h8.set (x' := .no) (b' := none) rfl hkn hkv, fun k hk => ?_⟩
       ·rw [her]; exact uC h6 i
       ·have : (es.eraseIdxIfInBounds i).size = es.size - 1 := by
          unfold Array.eraseIdxIfInBounds; rw [dif_pos hil]; simp
        rw [this, we, <- h7]; show ((es.size - 1 : Nat) : Int) = (es.size : Int) - 1; omega
       ·rw [her, CT h6 g1 hk, xb huk hk hkvk hkv hke hm, h9 k hk, g2]
    ·simp only [run_pure] at he; obtain ⟨rfl, rfl⟩ := he; exact same hc
  ·exact he.elim
 ·exact he.elim
theorem Da (H : az env w0 ρ h w) {t : TypeId} {r : Option SV} {v : Option Value} {x : SV} (hr : o8 env ρ r v) (he : (xm P nm t r).bx env h x h') : aF P env w0 ρ nm h' w (Instr.makeMap t v) x := by
 simp only [xm, run_bind, kL] at he; obtain ⟨⟨kk, el⟩, _, ⟨⟨kt, kd, hu, hd, hkk⟩, rfl⟩, he⟩ := he; simp only at hu hkk he
 have fin : (oc nm (.map 0 (.il 0) kk (.il 0) [])).bx env h () h' -> x = .map nm -> (Instr.makeMap t v).run P w = .ok (.map (some w.heap.size)) { w with heap := w.heap.push (.map #[] 0) } -> aF P env w0 ρ nm h' w (Instr.makeMap t v) x := by
  intro h1 h2 h3; subst h2; rw [eB] at h1; obtain ⟨hn, rfl⟩ := h1; have hle := af.mX (H.bk nm .dP hn) ⟨w.heap.size, 0, 0, false, none⟩; refine ⟨_, _, _, h3, hle, dU _, H.alloc hn rfl rfl ⟨_, #[], 0, [], ca _, H.below.fresh, rfl, rfl, by simp, ⟨fun e he => (by simp at he), List.Pairwise.nil, fun e he => (by simp at he), List.Pairwise.nil⟩, rfl, rfl, fun k _ => rfl⟩, ⟨_, ca _, rfl⟩⟩
 cases hr with
 | none =>
   simp only [run_bind, run_pure] at he; obtain ⟨_, _, h1, rfl, rfl⟩ := he; exact fin h1 rfl (by simp [Instr.makeMap, newObj, Sem.run])
 | some hx =>
   rename_i y v; split at he
   ·rename_i heq; cases heq
   ·rename_i k e heq; injection heq with heq; subst heq; simp only [run_bind, run_pure] at he; obtain ⟨_, _, h1, rfl, rfl⟩ := he; simp only [SV.Rel] at hx; subst hx; exact fin h1 rfl (by simp [Instr.makeMap, newObj, Sem.run, aN hu, asInt, asIntOf])
   ·exact he.elim
theorem yq (H : az env w0 ρ h w) {t : TypeId} {x y r : SV} {v u : Value} (hx : x.Rel env ρ v) (hy : y.Rel env ρ u) (he : (qS P nm t x y).bx env h r h') : aF P env w0 ρ nm h' w (Instr.makeSlice t v u) r := by
 simp only [qS, run_bind, bF] at he; obtain ⟨d, _, ⟨hd, rfl⟩, he⟩ := he; split at he
 ·rename_i elem k n k' c; simp only [run_bind, eR, aq, bU, gP, eB, run_pure] at he; obtain ⟨i, _, ⟨hi, rfl⟩, _, _, ⟨h0, rfl⟩, _, _, ⟨hby, rfl⟩, _, _, ⟨hn6, rfl⟩, _, _, ⟨hc1, rfl⟩, _, _, ⟨hc2, rfl⟩, z, _, ⟨⟨iz, zv, hz1, hz2, hz3⟩, rfl⟩, _, _, ⟨hzl, rfl⟩, _, _, ⟨hn, rfl⟩, rfl, rfl⟩ := he; have h0 : 0 < i.size := by simp [Nat.blt] at h0; omega
  have hby := Nat.le_of_ble_eq_true hby; have hzl := Nat.eq_of_beq_eq_true hzl; have hzr : z.Rel env ρ zv := ofVal_ok zv hz3; have hzc := fL (nf hz3) hzr; have hzs : zv.cells.size = i.size := by have := hzc.length; simp at this; omega
  rw [cq] at hc1 hc2; have hc1 : (n : Int) <= (c.den env).I := hc1; have hc2 : (c.den env).I <= 2147483648 := hc2; simp only [SV.Rel] at hx hy; subst hx; subst hy; generalize hC : (c.den env).I = C at *; obtain ⟨m, rfl⟩ : ∃ m : Nat, C = m := ⟨C.toNat, by omega⟩
  have hnm : n <= m := by omega
  have hrep := xe (env := env) (ρ := ρ) hzc n; have hmod := zC zv.cells m; rw [hzs] at hmod
  have hsplit : (List.replicate m zv.cells.toList).flatten = (List.replicate n zv.cells.toList).flatten ++ (List.replicate (m - n) zv.cells.toList).flatten := by
   rw [<- List.flatten_append, List.replicate_append_replicate]
   congr 2; omega
  have hrow : eH env ρ i.size (.il 0) [] (p5 n z.cells) (List.replicate n zv.cells.toList).flatten := ⟨[], _, rfl, by simp [E.den, Dv.I], fun k hk => by simp [E.den, Dv.I] at hk, hrep, fun t ht => by rw [wD ht]; exact hzl, by simp⟩
  have hlenm : ∀ q, (List.replicate q zv.cells.toList).flatten.length = q * i.size := fun q => by
   rw [dw (sz := i.size) (fun t ht => by rw [(List.mem_replicate.1 ht).2]; simpa using hzs)]; simp
  obtain ⟨hle, H'⟩ := sd (T := elem) (rest := (List.replicate (m - n) zv.cells.toList).flatten) (cap := m) H hn hrow (by
   rw [<- hsplit]; exact hlenm m)
  refine ⟨.slice (some ⟨w.heap.size, 0, none⟩) n m, _, _, ?_, hle, dU _, H', ⟨_, some ⟨w.heap.size, 0, none⟩, ca _, ?_, ?_, ?_, ?_, Int.le_refl 0⟩⟩
  ·have w1 : IntKind.i64.wrap (n : Int) = n := Ax (k := .i64) (by show (-9223372036854775808 : Int) <= n; omega) (by show (n : Int) <= 9223372036854775807; omega)
   have w2 : IntKind.i64.wrap (m : Int) = m := Ax (k := .i64) (by show (-9223372036854775808 : Int) <= m; omega) (by show (m : Int) <= 9223372036854775807; omega)
   have e0 : ((E.il (Int.ofNat n)).den env).I = (n : Int) := rfl
   have hb48 : ¬ ((i.bytes : Int) * (m : Int) > 2 ^ 48) := by
    have h3 : i.bytes * m <= 4096 * 2147483648 := Nat.mul_le_mul hby (by omega)
    have h4 : (2 : Int) ^ 48 = 281474976710656 := by decide
    rw [h4]; have h5 : ((i.bytes * m : Nat) : Int) <= 8796093022208 := by omega
    rw [Int.natCast_mul] at h5; omega
   have c1 : ¬ (((decide ((m : Int) < 0) || decide ((i.bytes : Int) * (m : Int) > 2 ^ 48)) || decide ((n : Int) < 0) || decide ((n : Int) > (m : Int))) = true) := by
    simp only [Bool.or_eq_true, decide_eq_true_eq]; omega
   have hrow2 : ((List.replicate n zv.cells.toList).flatten ++ (List.replicate (m - n) zv.cells.toList).flatten).toArray = (Array.range (m * i.size)).map (fun j => zv.cells[j % i.size]!) := by
    rw [<- hsplit, <- hmod]
   rw [e0]; simp only [Instr.makeSlice, asInt, asIntOf, Sem.run_bind, Sem.run_pure, Result.andThen_ok, aN hd, qc hi, w1, w2, if_neg c1, run_askRoom, Int.toNat_natCast, cb hi]
   by_cases tJ : m * i.size = 0
   ·have hr0 : ∀ f : Nat -> Value, (Array.range 0).map f = #[] := fun f => by apply Array.eq_empty_of_size_eq_zero; simp
    rw [hrow2, tJ, hr0, if_pos rfl]; simp only [Sem.run_bind, Result.andThen_ok, Sem.run_pure, newRow, run_newObj, hr0]
   ·rw [hrow2, if_neg tJ]; simp only [Sem.run_bind, qT hz1 hz2, Result.andThen_ok, Sem.run_pure, newRow, run_newObj, hzs]
  ·simp [E.den, Dv.I]
  ·simp
  ·simp [E.den, Dv.I]
  ·simp [E.den, Dv.I]; omega
 ·exact he.elim
theorem Aa (H : az env w0 ρ h w) {t : TypeId} {s x : SV} {v : Value} (hs : s.Rel env ρ v) (he : (s9 P nm t s).bx env h x h') : aF P env w0 ρ nm h' w (Instr.makeChan t v) x := by
 simp only [s9, run_bind, bF] at he; obtain ⟨u, _, ⟨hu, rfl⟩, he⟩ := he; split at he
 ·rename_i dir elem k kk; simp only [run_bind, eR, aq, run_pure] at he; obtain ⟨i, _, ⟨hi, rfl⟩, _, _, ⟨hb, rfl⟩, _, _, h1, rfl, rfl⟩ := he; rw [eB] at h1; obtain ⟨hn, rfl⟩ := h1; simp only [SV.Rel] at hs; subst hs; rw [Bool.and_eq_true] at hb; have h1 := Nat.le_of_ble_eq_true hb.1; have h2 := Nat.le_of_ble_eq_true hb.2; have hle := af.mX (H.bk nm .dP hn) ⟨w.heap.size, 0, 0, false, none⟩; refine ⟨.chan (some w.heap.size), { w with heap := w.heap.push (.chan kk #[] false 0 0 false) }, _, ?_, hle, dU _, H.alloc hn rfl rfl ⟨_, kk, #[], 0, 0, false, ca _, H.below.fresh, rfl, rfl, by simp; rfl⟩, ⟨_, ca _, rfl⟩⟩
  have e0 : ((E.il (Int.ofNat kk)).den env).I = (kk : Int) := rfl
  have c1 : ¬ ((kk : Int) < 0 \/ (kk : Int) > IntKind.i64.max \/ (i.bytes : Int) * (kk : Int) > 2 ^ 48 - 112) := by
   have : IntKind.i64.max = 9223372036854775807 := rfl; have h3 : (i.bytes : Int) * (kk : Int) <= 281474976710544 := by rw [<- Int.natCast_mul]; omega
   have h4 : (2 : Int) ^ 48 - 112 = 281474976710544 := by decide
   rw [this, h4]; omega
  rw [e0]; simp only [Instr.makeChan, asInt, asIntOf, Sem.run_bind, Sem.run_pure, Result.andThen_ok, aN hu, qc hi, if_neg c1, newObj, Sem.run, Int.toNat_natCast]
 ·exact he.elim
theorem IA (H : az env w0 ρ h w) {tys : Array TypeId} {ty : TypeId} {x r : SV} {v : Value} (hx : x.Rel env ρ v) (he : (Fh x).bx env h r h') : aF P env w0 ρ nm h' w (Builtin.close_ tys ty #[v]) r := by
 unfold Fh at he; split at he
 ·rename_i n; simp only [run_bind, aU] at he; obtain ⟨o, _, ⟨ho, rfl⟩, he⟩ := he; simp only [SV.Rel] at hx; obtain ⟨p, hp, rfl⟩ := hx; split at he
  ·rename_i c; simp only [run_bind, bU, bD, run_pure, ij] at he; obtain ⟨_, _, ⟨hc, rfl⟩, _, _, rfl, rfl, rfl⟩ := he; obtain ⟨q, room, buf, s, rr, t, h1, h2, h3, h4, h5⟩ := H.bk n _ ho; rw [hp] at h1; injection h1 with h1; subst h1; have hc : (c.den env).B = false := by simpa using hc
   rw [hc] at h5; obtain ⟨cW, h6⟩ := Array.getElem?_eq_some_iff.1 h5; refine ⟨.tuple #[], w.bd p.block (.chan room buf true s rr t), ρ, ?_, af.le_refl ρ, fun n hn => .inl hn, H.update ho rfl hp rfl ⟨p, room, buf, s, rr, t, hp, h2, h3, h4, bq h5⟩, [], rfl, rfl⟩
   have e : Builtin.close_ tys ty #[.chan (some p.block)] = (do
       let .chan room buf closed sent received timer <- getObj p.block | stuck "close: no channel in this block"
       if closed then runtimePanic (.plain "close of closed channel")
       setObj p.block (.chan room buf true sent received timer)
       pure (.tuple #[])) := rfl
   rw [e]; simp [getObj, setObj, Sem.run, h5, h6, World.bd, Array.setIfInBounds, cW]
  ·exact he.elim
 ·exact he.elim
end
def af.qC (ρ : af) (b : Nat) (x : Obj) : af := ⟨ρ.pl, ⟨fun c => if c = b then some x else ρ.fz c, ρ.fz.ar⟩⟩
section
variable {P : Program} {env : Env} {w0 : Anchor} {ρ ρ' : af} {h h' : aL} {w : World} {nm : Nat}
theorem az.freeze (H : az env w0 ρ h w) {n : Nat} {o : aA} {p : Pl} {x : Obj} (hn : ay h n = some o) (ho : o.owner = true) (hp : ρ n = some p) (hx : w.heap[p.block]? = some x) :
    ρ.le (ρ.qC p.block x) /\ az env w0 (ρ.qC p.block x) (bf h n .gone) w := by
 have hnone : ρ.fz p.block = none := by
  cases hz : ρ.fz p.block with
  | none => rfl
  | some y => exact absurd rfl (H.fz.free _ y n o p hz hn ho hp)
 have hle : ρ.le (ρ.qC p.block x) := ⟨fun _ _ h => h, ⟨fun b y hb => by
  show (if b = p.block then some x else ρ.fz b) = some y
  by_cases e : b = p.block
  ·rw [e, hnone] at hb; cases hb
  ·rw [if_neg e]; exact hb, fun _ _ _ h => h⟩⟩
 have sub : ∀ m y, ay (bf h n .gone) m = some y -> y.owner = true -> m ≠ n /\ ay h m = some y := fun m y hm hy => by
  rw [ai] at hm
  by_cases e : m = n
  ·subst e; simp at hm; subst hm; cases hy
  ·rw [if_neg e] at hm; exact ⟨e, hm⟩
 have hF := H.Au hn (kT ho); refine ⟨hle, ⟨hF.below, fun m y hm => (hF.bk m y hm).cU hle (fun _ _ _ => rfl) (fun h0 _ => h0), hF.inj, ?_, ⟨fun b y hb => ?_, fun b y m o' q hb hm ho' hq => ?_, fun b y hb hk => ?_⟩⟩⟩
 ·obtain ⟨a1, a2⟩ := rJ (x := .gone) hn (kT ho) rfl; refine H.ar.cU hle.fz rfl a1 (fun T ks e hm => ⟨ks, e, a2 _ _ _ hm⟩) (fun _ _ _ _ _ _ _ _ => rfl) (Nat.le_refl _) (fun _ h => h) rfl (fun m o' q hm ho' hq => .inl ⟨m, o', q, (sub m o' hm ho').2, ho', hq, rfl⟩) (fun m T ks e i c hm hc h0 => ?_); show (if c = p.block then some x else ρ.fz c) = none
  rw [if_neg (fun e' => H.ar.apart m T ks e i c n o p hm hc hn ho hp e'.symm)]; exact h0
 ·have hb : (if b = p.block then some x else ρ.fz b) = some y := hb
  by_cases e : b = p.block
  ·rw [if_pos e] at hb; injection hb with hb; subst hb; rw [e]; exact hx
  ·rw [if_neg e] at hb; exact H.fz.at_ b y hb
 ·have hb : (if b = p.block then some x else ρ.fz b) = some y := hb
  obtain ⟨hne, hm2⟩ := sub m o' hm ho'
  by_cases e : b = p.block
  ·intro he; exact hne (H.inj m n o' o q p hm2 hn ho' ho hq hp (he.trans e))
  ·rw [if_neg e] at hb; exact H.fz.free b y m o' q hb hm2 ho' hq
 ·have hb : (if b = p.block then some x else ρ.fz b) = some y := hb
  by_cases e : b = p.block
  ·obtain ⟨q, bb, hq, hqK, _⟩ := (H.bk n o hn).place ho; rw [hp] at hq; injection hq with hq; subst hq; rw [e] at hk; exact absurd hk hqK
  ·rw [if_neg e] at hb; exact H.fz.iM b y hb hk
theorem az.aa4 {n : Nat} {x : aA} (HS : az env w0 ρ (bf h n .gone) w) (hx : x.owner = false) (hx2 : x.mR = false) (hr : x.Rel env w0 ρ n w) : az env w0 ρ (bf h n x) w := by
 have back2 : ∀ m o', ay (bf h n x) m = some o' -> o'.owner = true -> ay (bf h n .gone) m = some o' := fun m o' hm ho' => by
  rw [ai] at hm ⊢
  by_cases e1 : m = n
  ·rw [if_pos e1] at hm; injection hm with hm; subst hm; rw [hx] at ho'; cases ho'
  ·rw [if_neg e1] at hm ⊢; exact hm
 refine ⟨HS.below, fun m o' hm => ?_, fun m k y z p p' hm hk hy hz hp hp' he => HS.inj m k y z p p' (back2 m y hm hy) (back2 k z hk hz) hy hz hp hp' he, ?_, HS.fz.at_, fun b y m o' p hb hm ho' hp => HS.fz.free b y m o' p hb (back2 m o' hm ho') ho' hp, HS.fz.iM⟩
 ·by_cases e1 : m = n
  ·rw [ai, if_pos e1] at hm; injection hm with hm; subst hm; rw [e1]; exact hr
  ·exact HS.bk m o' (by rw [ai, if_neg e1] at hm ⊢; exact hm)
 ·have g : ay (bf h n .gone) n = some .gone := by rw [ai, if_pos rfl]
  have e0 : bf (bf h n .gone) n x = bf h n x := by
   funext k
   show (if k = n then _ else if k = n then _ else _) = (if k = n then _ else _)
   by_cases e1 : k = n <;> simp [e1]
  obtain ⟨a1, a2⟩ := rJ (x := x) g rfl hx2; rw [e0] at a1 a2; exact HS.ar.cU (Fz.le_refl _) rfl a1 (fun T ks' e' hm => ⟨ks', e', a2 _ _ _ hm⟩) (fun _ _ _ _ _ _ _ _ => rfl) (Nat.le_refl _) (fun _ h => h) rfl (fun m o' q' hm ho' hq => .inl ⟨m, o', q', back2 m o' hm ho', ho', hq, rfl⟩) (fun _ _ _ _ _ _ _ _ h => h)
theorem az.Vw (H : az env w0 ρ h w) {n : Nat} {T : TypeId} {cs : List SV} {ks : aJ} {e r : E} {p : Pl} {vs : List Value} (hn : ay h n = some (.cells T cs)) (ha : ay h (dI T) = some (.ar T ks e))
    (hp : ρ n = some p) (hpb : p.base = 0) (hpn : p.nil = false) (hw : w.heap[p.block]? = some (.cells vs.toArray T (0, 0))) (hl : vs.length = ks.len) (hr1 : ∃ row, (r.den env).T = [row]) (hrow : ks.Rel ρ.fz (fun j => (r.den env).at 0 j) (fun j => vs[j]?) 0) :
    ∃ ρ', ρ.le ρ' /\ ρ'.pl = ρ.pl /\ ρ'.fz.ob = ρ.fz.ob /\ az env w0 ρ' (bf (bf h (dI T) (.ar T ks (.o2 .fj e r))) n (.fwd T (fZ .ab e))) w /\ ρ'.fz.ar T (e.den env).T.length = some p.block := by
 have hne : n ≠ dI T := fun e' => by rw [e', ha] at hn; cases hn
 obtain ⟨g1, g2⟩ := H.ar.cell _ _ _ _ ha
 have hnone : ρ.fz.ar T (e.den env).T.length = none := by
  cases hz : ρ.fz.ar T (e.den env).T.length with
  | none => rfl
  | some b => exact absurd (g1 _ _ hz) (Nat.lt_irrefl _)
 obtain ⟨ρ', hρ'⟩ : ∃ ρ' : af, ρ' = ⟨ρ.pl, ⟨ρ.fz.ob, fun T' i => if T' = T /\ i = (e.den env).T.length then some p.block else ρ.fz.ar T' i⟩⟩ := ⟨_, rfl⟩
 have har : ∀ T' i, ρ'.fz.ar T' i = if T' = T /\ i = (e.den env).T.length then some p.block else ρ.fz.ar T' i := fun T' i => by rw [hρ']
 have n5 : ρ'.fz.ob = ρ.fz.ob := by rw [hρ']
 have hpl : ρ'.pl = ρ.pl := by rw [hρ']
 have hpn' : ∀ m, ρ' m = ρ m := fun m => congrFun hpl m
 have hle : ρ.le ρ' := ⟨fun m q hm => by rw [hpn' m]; exact hm, ⟨fun c x hc => by rw [show ρ'.fz c = ρ.fz c from congrFun n5 c]; exact hc, fun T' i b hb => by
  rw [har]
  by_cases hc : T' = T /\ i = (e.den env).T.length
  ·rw [hc.1, hc.2, hnone] at hb; cases hb
  ·rw [if_neg hc]; exact hb⟩⟩
 have hT : ((E.o2 .fj e r).den env).T = (e.den env).T ++ (r.den env).T := rfl; obtain ⟨row, hr1⟩ := hr1; have hlen : ((E.o2 .fj e r).den env).T.length = (e.den env).T.length + 1 := by rw [hT, hr1]; simp
 obtain ⟨q, bb, hq, hqK, hqw⟩ := (H.bk n _ hn).place rfl; rw [hp] at hq; injection hq with hq; subst hq
 have get : ∀ m o, ay (bf (bf h (dI T) (.ar T ks (.o2 .fj e r))) n (.fwd T (fZ .ab e))) m = some o -> (m = n /\ o = .fwd T (fZ .ab e)) \/ (m = dI T /\ o = .ar T ks (.o2 .fj e r)) \/ (m ≠ n /\ m ≠ dI T /\ ay h m = some o) := fun m o hm => by
  rw [ai] at hm
  by_cases e1 : m = n
  ·rw [if_pos e1] at hm; injection hm with hm; exact .inl ⟨e1, hm.symm⟩
  ·rw [if_neg e1, ai] at hm
   by_cases e2 : m = dI T
   ·rw [if_pos e2] at hm; injection hm with hm; exact .inr (.inl ⟨e2, hm.symm⟩)
   ·rw [if_neg e2] at hm; exact .inr (.inr ⟨e1, e2, hm⟩)
 have getO : ∀ m o, ay (bf (bf h (dI T) (.ar T ks (.o2 .fj e r))) n (.fwd T (fZ .ab e))) m = some o -> o.owner = true -> m ≠ n /\ ay h m = some o := fun m o hm ho => by
  rcases get m o hm with ⟨_, rfl⟩ | ⟨_, rfl⟩ | ⟨h1, _, h3⟩
  ·cases ho
  ·cases ho
  ·exact ⟨h1, h3⟩
 have getA : ∀ m T' ks' e', ay (bf (bf h (dI T) (.ar T ks (.o2 .fj e r))) n (.fwd T (fZ .ab e))) m = some (.ar T' ks' e') -> (T' = T /\ ks' = ks /\ e' = .o2 .fj e r /\ m = dI T) \/ (T' ≠ T /\ ay h m = some (.ar T' ks' e')) := fun m T' ks' e' hm => by
  rcases get m _ hm with ⟨_, h2⟩ | ⟨h1, h2⟩ | ⟨h1, h2, h3⟩
  ·cases h2
  ·injection h2 with a b c; exact .inl ⟨a, b, c, h1⟩
  ·refine .inr ⟨fun e1 => ?_, h3⟩; subst e1; exact h2 (H.bk m _ h3)
 have arOther : ∀ T' i, T' ≠ T -> ρ'.fz.ar T' i = ρ.fz.ar T' i := fun T' i hne => by rw [har, if_neg fun hc => hne hc.1]
 have split : ∀ i b, ρ'.fz.ar T i = some b -> (i = (e.den env).T.length /\ b = p.block) \/ ρ.fz.ar T i = some b := fun i b hb => by
  rw [har] at hb
  by_cases hc : T = T /\ i = (e.den env).T.length
  ·rw [if_pos hc] at hb; injection hb with hb; exact .inl ⟨hc.2, hb.symm⟩
  ·rw [if_neg hc] at hb; exact .inr hb
 refine ⟨ρ', hle, hpl, n5, ⟨H.below, fun m o hm => ?_, fun m k x y p1 p2 hm hk hx hy hp1 hp2 he => ?_, ⟨fun m T' ks' e' hm => ?_, fun m T' ks' e' i b hm hb => ?_, fun m T' ks' e' i b k o q' hm hb hk ho hq' he => ?_, fun m T' ks' e' i m2 T2 ks2 e2 i2 b hm hm2 hb hb2 => ?_, fun m T' ks' e' i b hm hb => ?_, fun T' hT' => ?_⟩, ⟨fun b x hb => ?_, fun b x m o p' hb hm ho hp' => ?_, fun b x hb => ?_⟩⟩, by rw [har, if_pos ⟨rfl, rfl⟩]⟩
 ·rcases get m o hm with ⟨rfl, rfl⟩ | ⟨rfl, rfl⟩ | ⟨_, _, h3⟩
  ·have e1 : ((fZ .ab e).den env).I = ((e.den env).T.length : Int) := by rw [bA]; rfl
   refine ⟨p, by rw [hpn']; exact hp, hpb, hpn, by rw [e1]; omega, ?_⟩
   rw [e1, Int.toNat_natCast, har, if_pos ⟨rfl, rfl⟩]
  ·rfl
  ·exact (H.bk m o h3).cU hle (fun _ _ _ => rfl) (fun h0 _ => by rw [hpn']; exact h0)
 ·rw [hpn'] at hp1 hp2; exact H.inj m k x y p1 p2 (getO m x hm hx).2 (getO k y hk hy).2 hx hy hp1 hp2 he
 ·rcases getA m T' ks' e' hm with ⟨rfl, rfl, rfl, _⟩ | ⟨hne', hold⟩
  ·refine ⟨fun i b hb => ?_, fun i hi => ?_⟩
   ·rw [hlen]; rcases split i b hb with ⟨rfl, _⟩ | hb
    ·omega
    ·have := g1 i b hb; omega
   ·rw [hlen] at hi
    by_cases hi2 : i < (e.den env).T.length
    ·obtain ⟨b, vs', k1, k2, k3, k4⟩ := g2 i hi2; refine ⟨b, vs', hle.fz.ar _ _ _ k1, k2, k3, ?_⟩; rw [show (fun j => ((E.o2 .fj e r).den env).at i j) = fun j => (e.den env).at i j from funext fun j => by unfold Dv.at; rw [hT, List.getElem?_append_left hi2]]
     exact aJ.Rel.mono hle.fz (fun _ _ h => h) k4
    ·obtain rfl : i = (e.den env).T.length := by omega
     refine ⟨p.block, vs.toArray, by rw [har, if_pos ⟨rfl, rfl⟩], hw, by simpa using hl, ?_⟩
     rw [show (fun j => ((E.o2 .fj e r).den env).at (e.den env).T.length j) = fun j => (r.den env).at 0 j from funext fun j => by unfold Dv.at; rw [hT, List.getElem?_append_right (Nat.le_refl _), Nat.sub_self]]
     exact aJ.Rel.mono hle.fz (fun j v hv => by rw [List.getElem?_toArray]; exact hv) hrow
  ·obtain ⟨k1, k2⟩ := H.ar.cell m T' ks' e' hold; refine ⟨fun i b hb => k1 i b (by rw [<- arOther T' i hne']; exact hb), fun i hi => ?_⟩
   obtain ⟨b, vs', a1, a2, a3, a4⟩ := k2 i hi; exact ⟨b, vs', hle.fz.ar _ _ _ a1, a2, a3, aJ.Rel.mono hle.fz (fun _ _ h => h) a4⟩
 ·rcases getA m T' ks' e' hm with ⟨rfl, rfl, rfl, _⟩ | ⟨hne', hold⟩
  ·rcases split i b hb with ⟨_, rfl⟩ | hb
   ·exact ⟨(Array.getElem?_eq_some_iff.1 hw).1, hqK⟩
   ·exact H.ar.own _ _ _ _ i b ha hb
  ·rw [arOther T' i hne'] at hb; exact H.ar.own m T' ks' e' i b hold hb
 ·obtain ⟨hkn, hk2⟩ := getO k o hk ho; rw [hpn'] at hq'; rcases getA m T' ks' e' hm with ⟨rfl, rfl, rfl, _⟩ | ⟨hne', hold⟩
  ·rcases split i b hb with ⟨_, rfl⟩ | hb
   ·exact hkn (H.inj k n o _ q' p hk2 hn ho rfl hq' hp he)
   ·exact H.ar.apart _ _ _ _ i b k o q' ha hb hk2 ho hq' he
  ·rw [arOther T' i hne'] at hb; exact H.ar.apart m T' ks' e' i b k o q' hold hb hk2 ho hq' he
 ·have blk : ∀ m T' ks' e' i, ay h m = some (.ar T' ks' e') -> ρ.fz.ar T' i = some p.block -> False := fun m T' ks' e' i hm hb => H.ar.apart m T' ks' e' i p.block n _ p hm hb hn rfl hp rfl; rcases getA m T' ks' e' hm with ⟨rfl, rfl, rfl, _⟩ | ⟨hne1, hold1⟩
  ·rcases getA m2 T2 ks2 e2 hm2 with ⟨rfl, rfl, rfl, _⟩ | ⟨hne2, hold2⟩
   ·refine ⟨rfl, ?_⟩; rcases split i b hb with ⟨rfl, rfl⟩ | hb
    ·rcases split i2 _ hb2 with ⟨rfl, _⟩ | hb2
     ·rfl
     ·exact (blk _ _ _ _ _ ha hb2).elim
    ·rcases split i2 b hb2 with ⟨rfl, rfl⟩ | hb2
     ·exact (blk _ _ _ _ _ ha hb).elim
     ·exact (H.ar.inj _ _ _ _ i _ _ _ _ i2 b ha ha hb hb2).2
   ·rw [arOther T2 i2 hne2] at hb2; rcases split i b hb with ⟨rfl, rfl⟩ | hb
    ·exact (blk _ _ _ _ _ hold2 hb2).elim
    ·exact H.ar.inj _ _ _ _ i _ _ _ _ i2 b ha hold2 hb hb2
  ·rw [arOther T' i hne1] at hb; rcases getA m2 T2 ks2 e2 hm2 with ⟨rfl, rfl, rfl, _⟩ | ⟨hne2, hold2⟩
   ·rcases split i2 b hb2 with ⟨rfl, rfl⟩ | hb2
    ·exact (blk _ _ _ _ _ hold1 hb).elim
    ·exact H.ar.inj _ _ _ _ i _ _ _ _ i2 b hold1 ha hb hb2
   ·rw [arOther T2 i2 hne2] at hb2; exact H.ar.inj _ _ _ _ i _ _ _ _ i2 b hold1 hold2 hb hb2
 ·rw [show ρ'.fz b = ρ.fz b from congrFun n5 b]; rcases getA m T' ks' e' hm with ⟨rfl, rfl, rfl, _⟩ | ⟨hne', hold⟩
  ·rcases split i b hb with ⟨_, rfl⟩ | hb
   ·cases hz : ρ.fz p.block with
    | none => rfl
    | some y => exact absurd rfl (H.fz.free _ y n _ p hz hn rfl hp)
   ·exact H.ar.fz _ _ _ _ i b ha hb
  ·rw [arOther T' i hne'] at hb; exact H.ar.fz m T' ks' e' i b hold hb
 ·have hTne : T' ≠ T := fun e1 => by
    subst e1; exact hT' ks (.o2 .fj e r) (by rw [ai, if_neg hne.symm, ai, if_pos rfl])
  rw [show ρ'.fz.ar T' = ρ.fz.ar T' from funext fun i => arOther T' i hTne]; refine H.ar.stay T' fun ks' e' hx => ?_; refine hT' ks' e' ?_; have h1 : dI T' ≠ n := fun e1 => by rw [e1, hn] at hx; cases hx
  have h2 : dI T' ≠ dI T := fun e1 => hTne (by unfold dI at e1; omega)
  rw [ai, if_neg h1, ai, if_neg h2]; exact hx
 ·exact H.fz.at_ b x (by rw [<- show ρ'.fz b = ρ.fz b from congrFun n5 b]; exact hb)
 ·rw [show ρ'.fz b = ρ.fz b from congrFun n5 b] at hb; rw [hpn'] at hp'; exact H.fz.free b x m o p' hb (getO m o hm ho).2 ho hp'
 ·rw [show ρ'.fz b = ρ.fz b from congrFun n5 b] at hb; exact H.fz.iM b x hb
theorem pM {T : TypeId} {a : aJ × E} : (uE T).bx env h a h' ↔ ay h (dI T) = some (.ar T a.1 a.2) /\ h = h' := by
 obtain ⟨ks, e⟩ := a; simp only [uE, run_bind, aU]; constructor
 ·rintro ⟨o, _, ⟨ho, rfl⟩, h2⟩; split at h2
  ·rename_i T' ks' e'; simp only [run_bind, aq, run_pure] at h2; obtain ⟨_, _, ⟨hT, rfl⟩, e1, rfl⟩ := h2; injection e1 with e1 e2; subst e1; subst e2; have := Nat.eq_of_beq_eq_true hT; subst this; exact ⟨ho, rfl⟩
  ·exact h2.elim
 ·rintro ⟨ho, rfl⟩; refine ⟨_, _, ⟨ho, rfl⟩, ?_⟩; simp only [run_bind, aq, run_pure]; exact ⟨(), _, ⟨Nat.beq_refl T, rfl⟩, trivial, rfl⟩
theorem j6 : ∀ {es : List E}, ((rowOf es).den env).T.head?.getD [] = es.map (E.den env)
 | [] => rfl
 | e :: r => by show e.den env :: ((rowOf r).den env).T.head?.getD [] = _; rw [j6 (es := r)]; rfl
theorem OR {es : List E} (h : es ≠ []) : ((rowOf es).den env).T = [es.map (E.den env)] := by
 cases es with
 | nil => exact absurd rfl h
 | cons e r => show [e.den env :: ((rowOf r).den env).T.head?.getD []] = _; rw [j6 (es := r)]; rfl
theorem CZ {es : List E} (j : Nat) : ((rowOf es).den env).at 0 j = ((es.map (E.den env))[j]?).getD (.i 0) := by
 unfold Dv.at; rw [<- List.head?_eq_getElem?, j6]
def Gx (env : Env) (w0 : Anchor) (w : World) (d : Nat) : Prop := ∀ (k : DK) (x : SV) (e : E) (h h' : aL) (ρ : af) (v : Value), (celP d k x).bx env h e h' -> az env w0 ρ h w -> x.Rel env ρ v ->
 ∃ ρ', ρ.le ρ' /\ ρ'.pl = ρ.pl /\ az env w0 ρ' h' w /\ k.Rel ρ'.fz (e.den env) v
def xk (env : Env) (w0 : Anchor) (w : World) (d : Nat) : Prop := ∀ (ks : aJ) (l : List SV) (es : List E) (h h' : aL) (ρ : af) (vs : List Value), (celsP d ks l).bx env h es h' -> az env w0 ρ h w -> SV.aD env ρ l vs ->
 ∃ ρ', ρ.le ρ' /\ ρ'.pl = ρ.pl /\ az env w0 ρ' h' w /\ vs.length = ks.len /\ es.length = ks.len /\
  ∀ (row : Nat -> Dv) (cell : Nat -> Option Value) j, (∀ m, m < ks.len -> row (j + m) = ((es.map (E.den env))[m]?).getD (.i 0)) -> (∀ m, m < ks.len -> cell (j + m) = vs[m]?) -> ks.Rel ρ'.fz row cell j
theorem zK {d : Nat} {k : DK} {x : SV} {e : E} {v : Value} {m : String} (hr : (aY (jk k x) m).bx env h e h') (H : az env w0 ρ h w) (hx : x.Rel env ρ v) : ∃ ρ', ρ.le ρ' /\ ρ'.pl = ρ.pl /\ az env w0 ρ' h' w /\ k.Rel ρ'.fz (e.den env) v := by
 rw [ae] at hr; obtain ⟨hc, rfl⟩ := hr; exact ⟨ρ, af.le_refl ρ, rfl, H, vt hc hx⟩
theorem Gn {d : Nat} (hd : Gx env w0 w d) (hds : xk env w0 w d) : xk env w0 w (d + 1) := by
 intro ks l es h h' ρ vs hr H hl; cases ks with
 | nil =>
   cases l with
   | nil =>
     simp only [celsP, aT] at hr; obtain ⟨rfl, rfl⟩ := hr; simp only [SV.aD] at hl; subst hl; exact ⟨ρ, af.le_refl ρ, rfl, H, rfl, rfl, fun _ _ _ _ _ => trivial⟩
   | cons x l => exact hr.elim
 | cons k r =>
   cases l with
   | nil => exact hr.elim
   | cons x l =>
     simp only [celsP, run_bind, run_pure] at hr; obtain ⟨e, h1, hr1, es', h2, hr2, rfl, rfl⟩ := hr; simp only [SV.aD] at hl; obtain ⟨v, q, rfl, hx, hq⟩ := hl; obtain ⟨ρ1, l1, p1, H1, k1⟩ := hd k x e h h1 ρ v hr1 H hx; obtain ⟨ρ2, l2, p2, H2, n1, n2, k2⟩ := hds r l es' h1 h2 ρ1 q hr2 H1 (hq.mono l1); refine ⟨ρ2, af.le_trans l1 l2, p2.trans p1, H2, by simp [aJ.len, n1], by simp [aJ.len, n2], fun row cell j hrow hcell => ?_⟩
     simp only [aJ.Rel]; refine ⟨⟨v, by have := hcell 0 (Nat.succ_pos _); simpa using this, ?_⟩, k2 row cell (j + 1) (fun m hm => ?_) (fun m hm => ?_)⟩
     ·have := hrow 0 (Nat.succ_pos _); rw [Nat.add_zero] at this; rw [this]; exact k1.mono l2.fz
     ·have := hrow (m + 1) (by simp only [aJ.len]; omega)
      rw [show j + (m + 1) = j + 1 + m by omega] at this
      rw [this]; simp
     ·have := hcell (m + 1) (by simp only [aJ.len]; omega)
      rw [show j + (m + 1) = j + 1 + m by omega] at this
      rw [this]; simp
theorem EN : xk env w0 w 0 := by
 intro ks l es h h' ρ vs hr H hl; cases ks with
 | nil =>
   cases l with
   | nil =>
     simp only [celsP, aT] at hr; obtain ⟨rfl, rfl⟩ := hr; simp only [SV.aD] at hl; subst hl; exact ⟨ρ, af.le_refl ρ, rfl, H, rfl, rfl, fun _ _ _ _ _ => trivial⟩
   | cons x l => exact hr.elim
 | cons k r => exact hr.elim
theorem JP {d : Nat} (hd : Gx env w0 w d) (hds : xk env w0 w d) : Gx env w0 w (d + 1) := by
 intro k x e h h' ρ v hr H hx; unfold celP at hr; split at hr
 ·rename_i T n; simp only [run_bind, aU] at hr; obtain ⟨o, _, ⟨ho, rfl⟩, hr⟩ := hr; simp only [SV.Rel] at hx; obtain ⟨p, hp, rfl⟩ := hx; split at hr
  ·rename_i T' i; simp only [run_bind, aq, run_pure] at hr; obtain ⟨_, _, ⟨hT, rfl⟩, rfl, rfl⟩ := hr; have := Nat.eq_of_beq_eq_true hT; subst this; obtain ⟨q, g1, g2, g3, g4, g5⟩ := H.bk n _ ho; rw [hp] at g1; injection g1 with g1; subst g1; refine ⟨ρ, af.le_refl ρ, rfl, H, ?_⟩; simp only [DK.Rel]; exact .inr ⟨g4, p.block, g5, by simp [mg.den, g2]⟩
  ·rename_i T' cs; simp only [run_bind, aq, run_pure, aU, pM, bD] at hr; obtain ⟨_, _, ⟨hT, rfl⟩, a, _, ⟨ha, rfl⟩, es, h1, hes, a', _, ⟨ha', rfl⟩, _, _, ⟨hk, rfl⟩, o', _, ⟨ho', rfl⟩, hr⟩ := hr; have := Nat.eq_of_beq_eq_true hT; subst this; rw [Bool.and_eq_true] at hk; have hks := aJ.ax hk.1; have hpos : 0 < a.1.len := Nat.le_of_ble_eq_true hk.2; obtain ⟨q, vs, g1, g2, g3, g4, g5, g6⟩ := H.bk n _ ho; rw [hp] at g1; injection g1 with g1; subst g1; obtain ⟨ρ1, l1, p1, H1, n1, n2, k1⟩ := hds a.1 cs es h h1 ρ vs hes H g5; split at hr
   ·rename_i T'' cs''; simp only [run_bind, aq, bD, run_pure] at hr; obtain ⟨_, _, ⟨hT2, rfl⟩, _, _, rfl, _, _, rfl, rfl, rfl⟩ := hr; have := Nat.eq_of_beq_eq_true hT2; subst this; have hp1 : ρ1 n = some p := by rw [show ρ1 n = ρ n from congrFun p1 n]; exact hp
    rw [hks] at k1 n1 n2 hpos; have hne : es ≠ [] := fun e1 => by rw [e1] at n2; simp at n2; omega
    rw [hks]; obtain ⟨ρ2, l2, p2, _, H2, har⟩ := H1.Vw ho' ha' hp1 g3 g4 g6 n1 ⟨_, OR hne⟩ (k1 _ _ 0 (fun m _ => by rw [Nat.zero_add]; exact CZ m) (fun m _ => by rw [Nat.zero_add]))
    refine ⟨ρ2, af.le_trans l1 l2, p2.trans p1, H2, ?_⟩; simp only [DK.Rel]; have e1 : ((fZ .ab a'.2).den env).I = (((a'.2).den env).T.length : Int) := by rw [bA]; rfl
    refine .inr ⟨by rw [e1]; omega, p.block, by rw [e1, Int.toNat_natCast]; exact har, by simp [mg.den, g3]⟩
   ·exact hr.elim
  ·exact hr.elim
 ·rename_i ks n; simp only [run_bind, aU] at hr; obtain ⟨o, _, ⟨ho, rfl⟩, hr⟩ := hr; simp only [SV.Rel] at hx; obtain ⟨p, hp, rfl⟩ := hx; split at hr
  ·rename_i ks' e'; simp only [run_bind, aq, run_pure] at hr; obtain ⟨_, _, ⟨hk, rfl⟩, rfl, rfl⟩ := hr; have := aJ.ax hk; subst this; obtain ⟨q, g1, g2, g3, g4⟩ := H.bk n _ ho; rw [hp] at g1; injection g1 with g1; subst g1; refine ⟨ρ, af.le_refl ρ, rfl, H, ?_⟩; simp only [DK.Rel]; refine ⟨p.block, 0, by simp [mg.den, g2], ?_⟩
   simpa only [Nat.zero_add] using g4
  ·rename_i T cs; simp only [run_bind, aU] at hr; obtain ⟨es, h1, hes, o', _, ⟨ho', rfl⟩, hr⟩ := hr; obtain ⟨q, vs, g1, g2, g3, g4, g5, g6⟩ := H.bk n _ ho; rw [hp] at g1; injection g1 with g1; subst g1; obtain ⟨ρ1, l1, p1, H1, n1, n2, k1⟩ := hds ks cs es h h1 ρ vs hes H g5; split at hr
   ·simp only [run_bind, bD, run_pure] at hr; obtain ⟨_, _, rfl, rfl, rfl⟩ := hr; have hp1 : ρ1 n = some p := by rw [show ρ1 n = ρ n from congrFun p1 n]; exact hp
    obtain ⟨l2, H2⟩ := H1.freeze ho' rfl hp1 g6
    have hcell : ∀ j v, vs[j]? = some v -> cu (ρ1.qC p.block (.cells vs.toArray T (0, 0))).fz p.block j = some v := fun j v hj => by
     show (match (if p.block = p.block then some (Obj.cells vs.toArray T (0, 0)) else ρ1.fz p.block) with | some (.cells c _ _) => c[j]? | _ => none) = some v
     rw [if_pos rfl]; show vs.toArray[j]? = some v; rw [List.getElem?_toArray]; exact hj
    have hrel : ks.Rel (ρ1.qC p.block (.cells vs.toArray T (0, 0))).fz (fun j => ((rowOf es).den env).at 0 j) (fun j => cu (ρ1.qC p.block (.cells vs.toArray T (0, 0))).fz p.block j) 0 :=
     aJ.Rel.mono l2.fz (fun j v hj => hcell j v hj) (k1 (fun j => ((rowOf es).den env).at 0 j) (fun j => vs[j]?) 0 (fun m _ => by rw [Nat.zero_add]; exact CZ m) (fun m _ => by rw [Nat.zero_add]))
    refine ⟨ρ1.qC p.block (.cells vs.toArray T (0, 0)), af.le_trans l1 l2, p1, H2.aa4 rfl rfl ⟨p, hp1, g3, g4, hrel⟩, ?_⟩; simp only [DK.Rel]; refine ⟨p.block, 0, by simp [mg.den, g3], ?_⟩
    simpa only [Nat.zero_add] using hrel
   ·exact hr.elim
  ·exact hr.elim
 ·rename_i t k t' x; simp only [run_bind, aq] at hr; obtain ⟨_, _, ⟨hT, rfl⟩, hr⟩ := hr; have := Nat.eq_of_beq_eq_true hT; subst this; simp only [SV.Rel] at hx; obtain ⟨y, rfl, hy⟩ := hx; obtain ⟨ρ1, l1, p1, H1, k1⟩ := hd k x e h h' ρ y hr H hy; refine ⟨ρ1, l1, p1, H1, ?_⟩; simp only [DK.Rel]; exact ⟨y, rfl, k1⟩
 ·exact zK (d := d) hr H hx
theorem s0 : ∀ d, Gx env w0 w d /\ xk env w0 w d
 | 0 => ⟨fun k x e h h' ρ v hr H hx => by unfold celP at hr; exact zK (d := 0) hr H hx, EN⟩
 | d + 1 => ⟨JP (s0 d).1 (s0 d).2, Gn (s0 d).1 (s0 d).2⟩
theorem AP (H : az env w0 ρ h w) {T : TypeId} {ks : aJ} {e : E} {i : Int} {j : Nat} {v : Value} (ha : ay h (dI T) = some (.ar T ks e)) (hx : oR ρ.fz T i j v) (h0 : 0 <= i) :
    ∃ b vs, v = .pointer (some ⟨b, j, none⟩) /\ ρ.fz.ar T i.toNat = some b /\ i.toNat < (e.den env).T.length /\ w.heap[b]? = some (.cells vs T (0, 0)) /\ vs.size = ks.len /\ ks.Rel ρ.fz (fun j => (e.den env).at i.toNat j) (fun j => vs[j]?) 0 := by
 rcases hx with ⟨h1, _⟩ | ⟨_, b, h1, h2⟩
 ·omega
 ·obtain ⟨g1, g2⟩ := H.ar.cell _ _ _ _ ha; have hi := g1 _ _ h1; obtain ⟨b', vs, k1, k2, k3, k4⟩ := g2 _ hi; rw [h1] at k1; injection k1 with k1; subst k1; exact ⟨b, vs, h2, h1, hi, k2, k3, k4⟩
theorem yc (H : az env w0 ρ h w) {t T : TypeId} {i : E} {j : Nat} {r : SV} {v : Value} (hx : oR ρ.fz T (i.den env).I j v) (he : (Hu P t T i j).bx env h r h') :
    h = h' /\ ∃ u, (Instr.loadAt t v).run P w = .ok u w /\ r.Rel env ρ u := by
 simp only [Hu, run_bind, bU, bF, eR, pM] at he; obtain ⟨_, _, ⟨h0, rfl⟩, d, _, ⟨hd, rfl⟩, ti, _, ⟨hi, rfl⟩, a, _, ⟨ha, rfl⟩, he⟩ := he; rw [cq] at h0; obtain ⟨b, vs, rfl, _, _, hw, hsz, hrow⟩ := AP H ha hx h0; have hcell : ∀ k u, (fun j => vs[j]?) k = some u -> w.cell? ⟨b, k, none⟩ = some u := fun k u hk => by rw [cell_of hw]; exact hk
 cases hagg : jz d with
 | true =>
   rw [hagg] at he; simp only [run_bind, ae, run_pure] at he; obtain ⟨l, _, ⟨hc, rfl⟩, rfl, rfl⟩ := he; obtain ⟨us, h1, h2, h3⟩ := mz hrow hc; refine ⟨rfl, .agg us.toArray, ?_, ⟨us, rfl, h1⟩⟩; have := run_loadCells_list (P := P) w ⟨b, j, none⟩ us (fun k u hk => by rw [cT]; exact hcell _ u (h3 k u hk))
   rw [h2] at this; simp [Instr.loadAt, Instr.sureAddr, loadVar, iY hd, hagg, cb hi, this]
 | false =>
   rw [hagg] at he; simp only [run_bind, ae] at he; obtain ⟨l, _, ⟨hc, rfl⟩, he⟩ := he; obtain ⟨us, h1, h2, h3⟩ := mz hrow hc
   match l, he with
   | [y], he =>
     simp only [run_pure] at he; obtain ⟨rfl, rfl⟩ := he; simp only [SV.aD] at h1; obtain ⟨u, q, rfl, hu, rfl⟩ := h1; refine ⟨rfl, _, ?_, hu⟩; have := hcell _ u (h3 0 u rfl); rw [Nat.add_zero] at this; simp [Instr.loadAt, Instr.sureAddr, loadVar, iY hd, hagg, this]
   | [], he => exact he.elim
   | _ :: _ :: _, he => exact he.elim
theorem GC (H : az env w0 ρ h w) {n : Nat} {T : TypeId} {i : E} {j : Nat} {v : Value} (ho : ay h n = some (.fwd T i)) (hx : (SV.ptr n (.c j)).Rel env ρ v) : oR ρ.fz T (i.den env).I j v := by
 simp only [SV.Rel] at hx; obtain ⟨p, hp, rfl⟩ := hx; obtain ⟨q, g1, g2, g3, g4, g5⟩ := H.bk n _ ho; rw [hp] at g1; injection g1 with g1; subst g1; exact .inr ⟨g4, p.block, g5, by simp [mg.den, g2]⟩
theorem Jx (H : az env w0 ρ h w) {t : TypeId} {x r : SV} {v : Value} (hx : x.Rel env ρ v) (he : (Fc P t x).bx env h r h') : aF P env w0 ρ nm h' w (Instr.loadAt t v) r := by
 unfold Fc at he; split at he
 ·rename_i T i j; simp only [SV.Rel] at hx; obtain ⟨rfl, u, h1, h2⟩ := yc H hx he; exact aF.same H h1 h2
 ·rename_i n j; simp only [run_bind, aU] at he; obtain ⟨o, _, ⟨ho, rfl⟩, he⟩ := he; split at he
  ·obtain ⟨rfl, u, h1, h2⟩ := yc H (GC H ho hx) he; exact aF.same H h1 h2
  ·rename_i ks e; refine wR H (x := .dC ks e (.il 0) j) ?_ he; simp only [SV.Rel] at hx ⊢; obtain ⟨p, hp, rfl⟩ := hx; obtain ⟨q, g1, g2, g3, g4⟩ := H.bk n _ ho; rw [hp] at g1; injection g1 with g1; subst g1; refine ⟨p.block, 0, by simp [mg.den, g2], ?_⟩
   have e0 : ((E.il 0).den env).I.toNat = 0 := rfl; rw [e0]; simpa only [Nat.zero_add] using g4
  ·exact wR H hx he
 ·exact wR H hx he
theorem aJ.Rel.BD {fz : Fz} {row : Nat -> Dv} {cell : Nat -> Option Value} : ∀ {ks : aJ} {j : Nat}, (∀ m k, ks.get m = some k -> ∃ v, cell (j + m) = some v /\ k.Rel fz (row (j + m)) v) -> ks.Rel fz row cell j
 | .nil, _, _ => trivial
 | .cons k r, j, h => by
   simp only [aJ.Rel]; refine ⟨by simpa using h 0 k rfl, aJ.Rel.BD fun m k' hk => ?_⟩
   have := h (m + 1) k' hk; rw [show j + (m + 1) = j + 1 + m by omega] at this
   exact this
theorem o6 : ∀ {j : Nat} {ks : aJ} {m : Nat}, (jZ ks j).get m = ks.get (j + m)
 | 0, ks, m => by cases ks <;> simp [jZ]
 | j + 1, .nil, m => by simp [jZ, aJ.get]
 | j + 1, .cons k r, m => by
   show (jZ r j).get m = aJ.get (.cons k r) (j + 1 + m); rw [o6 (j := j), show j + 1 + m = (j + m) + 1 by omega]
   rfl
theorem oW : ∀ {n : Nat} {ks : aJ} {m : Nat}, m < n -> (pE ks n).get m = ks.get m
 | 0, _, _, h => absurd h (Nat.not_lt_zero _)
 | n + 1, .nil, m, _ => rfl
 | n + 1, .cons k r, 0, _ => rfl
 | n + 1, .cons k r, m + 1, h => oW (n := n) (ks := r) (m := m) (by omega)
theorem ja {e i : E} {j : Nat} {es : List E} : ∀ {n k m : Nat}, m < n -> (dG e i j es k n)[m]? = some (cond (Nat.ble j (k + m)) (match es[k + m - j]? with | some x => x | none => .o2 (.cell (k + m)) e i) (.o2 (.cell (k + m)) e i))
 | 0, _, _, h => absurd h (Nat.not_lt_zero _)
 | n + 1, k, 0, _ => rfl
 | n + 1, k, m + 1, h => by
   show (dG e i j es (k + 1) n)[m]? = _; rw [ja (by omega), show k + 1 + m = k + (m + 1) by omega]
theorem az.aao (H : az env w0 ρ h w) {T : TypeId} {ks : aJ} {e e' : E} {i b : Nat} {vs vs' : Array Value} {row' : List Dv} (ha : ay h (dI T) = some (.ar T ks e)) (hi : i < (e.den env).T.length) (hb : ρ.fz.ar T i = some b)
    (hw : w.heap[b]? = some (.cells vs T (0, 0))) (hsz : vs'.size = ks.len) (hT : (e'.den env).T = (e.den env).T.set i row') (hrow : ks.Rel ρ.fz (fun j => (row'[j]?).getD (.i 0)) (fun j => vs'[j]?) 0) :
    az env w0 ρ (bf h (dI T) (.ar T ks e')) (w.bd b (.cells vs' T (0, 0))) := by
 have get : ∀ m o, ay (bf h (dI T) (.ar T ks e')) m = some o -> (m = dI T /\ o = .ar T ks e') \/ (m ≠ dI T /\ ay h m = some o) := fun m o hm => by
  rw [ai] at hm
  by_cases e1 : m = dI T
  ·rw [if_pos e1] at hm; injection hm with hm; exact .inl ⟨e1, hm.symm⟩
  ·rw [if_neg e1] at hm; exact .inr ⟨e1, hm⟩
 have getO : ∀ m o, ay (bf h (dI T) (.ar T ks e')) m = some o -> o.owner = true -> ay h m = some o := fun m o hm ho => by
  rcases get m o hm with ⟨_, rfl⟩ | ⟨_, h2⟩
  ·cases ho
  ·exact h2
 have getA : ∀ m T' ks' x, ay (bf h (dI T) (.ar T ks e')) m = some (.ar T' ks' x) -> (T' = T /\ ks' = ks /\ x = e') \/ (T' ≠ T /\ ay h m = some (.ar T' ks' x)) := fun m T' ks' x hm => by
  rcases get m _ hm with ⟨_, h2⟩ | ⟨h1, h2⟩
  ·injection h2 with a b c; exact .inl ⟨a, b, c⟩
  ·refine .inr ⟨fun e1 => ?_, h2⟩; subst e1; exact h1 (H.bk m _ h2)
 have iM : ∀ m T' ks' x, ay (bf h (dI T) (.ar T ks e')) m = some (.ar T' ks' x) -> ∃ m' ks2 x2, ay h m' = some (.ar T' ks2 x2) := fun m T' ks' x hm => by
  rcases getA m T' ks' x hm with ⟨rfl, _, _⟩ | ⟨_, h2⟩
  ·exact ⟨_, _, _, ha⟩
  ·exact ⟨_, _, _, h2⟩
 have hbK := (H.ar.own _ _ _ _ i b ha hb).2; have hfzb := H.ar.fz _ _ _ _ i b ha hb; refine ⟨H.below.bd hbK _, fun m o hm => ?_, fun m k x y p1 p2 hm hk hx hy hp1 hp2 he => H.inj m k x y p1 p2 (getO m x hm hx) (getO k y hk hy) hx hy hp1 hp2 he, ⟨fun m T' ks' x hm => ?_, fun m T' ks' x i' c hm hc => ?_, fun m T' ks' x i' c k o q hm hc hk ho hq => ?_, fun m T1 ks1 x1 i1 m2 T2 ks2 x2 i2 c hm hm2 hc hc2 => ?_, fun m T' ks' x i' c hm hc => ?_, fun T' hT' => ?_⟩, ⟨fun c x hc => ?_, fun c x m o p hc hm ho hp => H.fz.free c x m o p hc (getO m o hm ho) ho hp, H.fz.iM⟩⟩
 ·rcases get m o hm with ⟨rfl, rfl⟩ | ⟨h1, h2⟩
  ·rfl
  ·exact (H.bk m o h2).cU (af.le_refl ρ) (fun p ho hp => dV fun e1 => H.ar.apart _ _ _ _ i b m o p ha hb h2 ho hp e1) (fun h0 _ => h0)
 ·rcases getA m T' ks' x hm with ⟨rfl, rfl, rfl⟩ | ⟨hne, hold⟩
  ·obtain ⟨g1, g2⟩ := H.ar.cell _ _ _ _ ha; rw [hT, List.length_set]; refine ⟨g1, fun i' hi' => ?_⟩
   by_cases hii : i' = i
   ·subst hii; refine ⟨b, vs', hb, bq hw, hsz, ?_⟩; rw [show (fun j => (x.den env).at i' j) = fun j => (row'[j]?).getD (.i 0) from funext fun j => by unfold Dv.at; rw [hT, List.getElem?_set_self hi']; rfl]
    exact hrow
   ·obtain ⟨c, us, k1, k2, k3, k4⟩ := g2 i' hi'; refine ⟨c, us, k1, (dV fun e1 => ?_).trans k2, k3, ?_⟩
    ·subst e1; exact hii (H.ar.inj _ _ _ _ i' _ _ _ _ i c ha ha k1 hb).2
    ·rw [show (fun j => (x.den env).at i' j) = fun j => (e.den env).at i' j from funext fun j => by unfold Dv.at; rw [hT, List.getElem?_set_ne (Ne.symm hii)]]
     exact k4
  ·obtain ⟨g1, g2⟩ := H.ar.cell _ _ _ _ hold; refine ⟨g1, fun i' hi' => ?_⟩; obtain ⟨c, us, k1, k2, k3, k4⟩ := g2 i' hi'; refine ⟨c, us, k1, (dV fun e1 => ?_).trans k2, k3, k4⟩; subst e1; exact hne (H.ar.inj _ _ _ _ i' _ _ _ _ i c hold ha k1 hb).1
 ·obtain ⟨m', ks2, x2, g⟩ := iM m T' ks' x hm; obtain ⟨a1, a2⟩ := H.ar.own m' T' ks2 x2 i' c g hc; exact ⟨by simpa [World.bd] using a1, a2⟩
 ·obtain ⟨m', ks2, x2, g⟩ := iM m T' ks' x hm; exact H.ar.apart m' T' ks2 x2 i' c k o q g hc (getO k o hk ho) ho hq
 ·obtain ⟨m', ks3, x3, g⟩ := iM m T1 ks1 x1 hm; obtain ⟨m4, ks4, x4, g4⟩ := iM m2 T2 ks2 x2 hm2; exact H.ar.inj m' T1 ks3 x3 i1 m4 T2 ks4 x4 i2 c g g4 hc hc2
 ·obtain ⟨m', ks2, x2, g⟩ := iM m T' ks' x hm; exact H.ar.fz m' T' ks2 x2 i' c g hc
 ·refine H.ar.stay T' fun ks' x hx => ?_
  by_cases e1 : dI T' = dI T
  ·have e2 : T' = T := by unfold dI at e1; omega
   subst e2; exact hT' ks e' (by rw [ai, if_pos rfl])
  ·exact hT' ks' x (by rw [ai, if_neg e1]; exact hx)
 ·exact (dV fun e1 => by rw [e1] at hc; rw [show ρ.fz b = none from hfzb] at hc; cases hc).trans (H.fz.at_ c x hc)
def q8 (P : Program) (env : Env) (w0 : Anchor) (ρ : af) (h' : aL) (w : World) (s : Sem Unit) : Prop := ∃ w' ρ', s.run P w = .ok () w' /\ ρ.le ρ' /\ ρ'.pl = ρ.pl /\ az env w0 ρ' h' w'
theorem zD (H : az env w0 ρ h w) {t T : TypeId} {i : E} {j : Nat} {y : SV} {v u : Value} {r : Unit} (hx : oR ρ.fz T (i.den env).I j v) (hy : y.Rel env ρ u) (he : (AB P t T i j y).bx env h r h') : q8 P env w0 ρ h' w (Instr.storeAt t v u) := by
 simp only [AB, run_bind, bU, eR, aq, pM, bD] at he; obtain ⟨_, _, ⟨h0, rfl⟩, ti, _, ⟨hi, rfl⟩, _, _, ⟨hsz, rfl⟩, _, _, ⟨hone, rfl⟩, a, _, ⟨ha, rfl⟩, es, h1, hes, a', _, ⟨ha', rfl⟩, _, _, ⟨hk, rfl⟩, rfl⟩ := he; rw [cq] at h0; rw [Bool.and_eq_true] at hk; have hks := aJ.ax hk.1; have hle := Nat.le_of_ble_eq_true hk.2; have hcells := fL (ot hone) hy; have h1c := u9 hone hcells
 have hlen : u.cells.size = ti.size := by
  have := hcells.length; have h2 := Nat.eq_of_beq_eq_true hsz; simp at this; omega
 have hul : u.cells.size = y.cells.length := by have := hcells.length; simpa using this
 obtain ⟨ρ1, l1, p1, H1, n1, n2, k1⟩ := (s0 Hk).2 _ _ es h h1 ρ u.cells.toList hes H hcells; have hx1 := hx.mono l1.fz; obtain ⟨b, vs, rfl, hb, hib, hw, hvs, hrow⟩ := AP H1 ha' hx1 h0; rw [hks] at hle ⊢; have hin : j + u.cells.toList.length <= vs.size := by rw [hvs]; simp; omega
 have hrun := dE (P := P) (off := j) u.cells.toList w vs 0 hw h1c (by simpa using hin)
 have hesl : es.length = u.cells.size := by rw [n2, <- n1]; simp
 have i0 : i.den env = i.den env := rfl; refine ⟨w.bd b (.cells (putCells vs j u.cells.toList) T (0, 0)), ρ1, ?_, l1, p1, ?_⟩
 ·simp only [Instr.storeAt, Instr.sureAddr, storeVar, Sem.run_bind, Sem.run_pure, Result.andThen, cb hi, hlen, ne_eq, not_true_eq_false, if_false]; exact hrun
 ·have bf := cN u.cells.toList vs j (by simpa using hin)
  refine H1.aao (row' := (dG a'.2 i j es 0 a'.1.len).map (E.den env)) ha' hib hb hw (by rw [ql]; exact hvs) ?_ ?_
  ·show List.set _ _ _ = _
   have e1 : ((E.o2 .bT i (rowOf (dG a'.2 i j es 0 a'.1.len))).den env).row = i.den env :: (dG a'.2 i j es 0 a'.1.len).map (E.den env) := by
    show i.den env :: ((rowOf _).den env).T.head?.getD [] = _; rw [j6]
   rw [e1]; rfl
  ·refine aJ.Rel.BD fun m k hkm => ?_; have hm : m < a'.1.len := aJ.A6 hkm; rw [Nat.zero_add, List.getElem?_map, ja hm]; simp only [Option.map_some, Option.getD_some, Nat.zero_add]; have hcellput : (putCells vs j u.cells.toList)[m]? = (vs.toList.take j ++ u.cells.toList ++ vs.toList.drop (j + u.cells.toList.length))[m]? := by rw [<- Array.getElem?_toList, bf]
   obtain ⟨v0, g1, g2⟩ := hrow.get hkm; rw [Nat.zero_add] at g1 g2; have hml : m < vs.size := by rw [hvs]; exact hm
   have hjl : j <= vs.toList.length := by simp; omega
   have htl : (vs.toList.take j).length = j := by rw [List.length_take]; omega
   have oldden : ((E.o2 (.cell m) a'.2 i).den env) = (a'.2.den env).at (i.den env).I.toNat m := rfl
   by_cases hjm : j <= m
   ·rw [show Nat.ble j m = true from Nat.ble_eq_true_of_le hjm]
    by_cases hmn : m - j < es.length
    ·rw [List.getElem?_eq_getElem hmn]; simp only [cond_true]
     have hkk : (pE (jZ a'.1 j) y.cells.length).get (m - j) = some k := by
      rw [oW (by omega), o6, show j + (m - j) = m by omega]; exact hkm
     rw [hks] at k1 n1; have hR := k1 (fun q => ((es.map (E.den env))[q]?).getD (.i 0)) (fun q => u.cells.toList[q]?) 0 (fun q _ => by rw [Nat.zero_add]) (fun q _ => by rw [Nat.zero_add])
     obtain ⟨v1, q1, q2⟩ := hR.get hkk; rw [Nat.zero_add] at q1 q2; refine ⟨v1, ?_, ?_⟩
     ·rw [hcellput, List.append_assoc, List.getElem?_append_right (by rw [htl]; exact hjm), htl, List.getElem?_append_left (by simp; omega)]
      exact q1
     ·rw [List.getElem?_map, List.getElem?_eq_getElem hmn] at q2; exact q2
    ·rw [List.getElem?_eq_none (by omega)]
     simp only [cond_true]; refine ⟨v0, ?_, by rw [oldden]; exact g2⟩
     have hlen2 : u.cells.toList.length = es.length := by simp [hesl]
     rw [hcellput, List.append_assoc, List.getElem?_append_right (by rw [htl]; exact hjm), htl, List.getElem?_append_right (by omega), List.getElem?_drop]
     rw [show j + u.cells.toList.length + (m - j - u.cells.toList.length) = m by omega, Array.getElem?_toList]
     exact g1
   ·rw [show Nat.ble j m = false from by rw [Bool.eq_false_iff]; intro hb; exact hjm (Nat.le_of_ble_eq_true hb)]
    simp only [cond_false]; refine ⟨v0, ?_, by rw [oldden]; exact g2⟩
    rw [hcellput, List.append_assoc, List.getElem?_append_left (by rw [htl]; omega), List.getElem?_take_of_lt (by omega), Array.getElem?_toList]
    exact g1
theorem Dm : ∀ {ks : aJ} {l : List SV} {es : List E} {us : List Value}, Cx ks l = some es -> SV.aD env ρ l us -> us.length = ks.len /\ es.length = ks.len /\ ks.Rel ρ.fz (fun q => ((es.map (E.den env))[q]?).getD (.i 0)) (fun q => us[q]?) 0
 | .nil, [], es, us, h, hr => by
   simp only [Cx, Option.some.injEq] at h; subst h; simp only [SV.aD] at hr; subst hr; exact ⟨rfl, rfl, trivial⟩
 | .nil, _ :: _, _, _, h, _ => by cases h
 | .cons _ _, [], _, _, h, _ => by cases h
 | .cons k r, x :: l, es, us, h, hr => by
   simp only [Cx] at h; split at h
   ·rename_i e es' h1 h2; injection h with h; subst h; simp only [SV.aD] at hr; obtain ⟨v, q, rfl, hx, hl⟩ := hr; obtain ⟨g1, g2, g3⟩ := Dm h2 hl; refine ⟨by simp [g1, aJ.len], by simp [g2, aJ.len], ?_⟩
    simp only [aJ.Rel]; refine ⟨⟨v, rfl, vt h1 hx⟩, ?_⟩; refine aJ.Rel.BD fun m k hk => ?_; obtain ⟨v2, a1, a2⟩ := g3.get hk; rw [Nat.zero_add] at a1 a2; exact ⟨v2, by rw [show 0 + 1 + m = m + 1 by omega]; simpa using a1, by rw [show 0 + 1 + m = m + 1 by omega]; simpa using a2⟩
   ·cases h
theorem Kg (H : az env w0 ρ h w) {t : TypeId} {n sz j sz' : Nat} {i len e : E} {y : SV} {v u : Value} {T : TypeId} {cols : List ch} {r : Unit} (ho : ay h n = some (.row T sz' len cols [])) (hx : (SV.ptr n (.el i sz j)).Rel env ρ v) (hy : y.Rel env ρ u)
    (he : (Fw P t n i sz j y T sz' len cols e).bx env h r h') : q8 P env w0 ρ h' w (Instr.storeAt t v u) := by
 simp only [Fw, run_bind, bU, eR, aq, ae, bD] at he; obtain ⟨ti, _, ⟨hi, rfl⟩, _, _, ⟨hsz, rfl⟩, _, _, ⟨hone, rfl⟩, _, _, ⟨hss, rfl⟩, ks, _, ⟨hks, rfl⟩, _, _, ⟨hc, rfl⟩, _, _, ⟨h0, rfl⟩, _, _, ⟨cW, rfl⟩, _, _, ⟨hlt2, rfl⟩, es, _, ⟨hes, rfl⟩, rfl⟩ := he; obtain rfl := Nat.eq_of_beq_eq_true hss; simp only [Bool.and_eq_true] at hc; obtain ⟨⟨hp, hkl⟩, hle⟩ := hc; have hkl := Nat.eq_of_beq_eq_true hkl; have hle := Nat.le_of_ble_eq_true hle; rw [cq, dS] at h0; rw [u5] at cW hlt2; rw [bA, AO] at hlt2; have hcells := fL (ot hone) hy; have h1c := u9 hone hcells
 have hlen : u.cells.size = ti.size := by
  have := hcells.length; have h2 := Nat.eq_of_beq_eq_true hsz; simp at this; omega
 have hul : u.cells.size = y.cells.length := by have := hcells.length; simpa using this
 obtain ⟨n1, n2, k1⟩ := Dm hes hcells; obtain ⟨p, vs, rest, g1, g2, g3, g4, hrow, g6, g7⟩ := H.bk n _ ho; obtain ⟨base, tl, rfl, r1, r2, r3, r4, r5⟩ := hrow; have htl : tl = [] := by simpa [SV.aD] using r3
 subst htl; simp only [SV.Rel] at hx; obtain ⟨q, hq, rfl⟩ := hx; rw [g1] at hq; injection hq with hq; subst hq; obtain ⟨I, hI⟩ : ∃ I : Nat, (i.den env).I = I := ⟨(i.den env).I.toNat, by omega⟩
 have hIn : (i.den env).I.toNat = I := by omega
 have hIL : I < (len.den env).I.toNat := by omega
 have hIe : I < (e.den env).T.length := by omega
 have hcell : I * sz + sz <= base.length := by
  rw [r1]
  calc I * sz + sz = (I + 1) * sz := by rw [Nat.succ_mul]
   _ <= _ := Nat.mul_le_mul_right _ hIL
 have hjn : j + u.cells.toList.length <= sz := by rw [<- hkl]; simp; omega
 have hin : (I * sz + j) + u.cells.toList.length <= (base ++ [] ++ rest).toArray.size := by simp at hjn ⊢; omega
 have hrun := dE (P := P) (off := I * sz + j) u.cells.toList w (base ++ [] ++ rest).toArray 0 g7 h1c (by simpa using hin)
 have bf := cN u.cells.toList (base ++ [] ++ rest).toArray (I * sz + j) (by simpa using hin)
 have hesl : es.length = u.cells.size := by rw [n2, <- n1]; simp
 have hesy : es.length = y.cells.length := by omega
 refine ⟨w.bd p.block (.cells (putCells (base ++ [] ++ rest).toArray (I * sz + j) u.cells.toList) T (0, 0)), ρ, ?_, af.le_refl ρ, rfl, ?_⟩
 ·simp only [Instr.storeAt, Instr.sureAddr, storeVar, Sem.run_bind, Sem.run_pure, Result.andThen, cb hi, hlen, ne_eq, not_true_eq_false, if_false]
  have e0 : p.base + mg.den env (.el i sz j) = I * sz + j := by
   show p.base + ((i.den env).I.toNat * sz + j) = _; rw [g3, hIn]; omega
  rw [e0]; exact hrun
 ·
  have hnew : (putCells (base ++ [] ++ rest).toArray (I * sz + j) u.cells.toList).toList = (base.take (I * sz + j) ++ u.cells.toList ++ base.drop (I * sz + j + u.cells.toList.length)) ++ rest := by
   rw [bf]; simp only [List.append_nil, Nat.add_zero]; rw [List.take_append_of_le_length (by omega), List.drop_append_of_le_length (by omega)]
   simp
  have hbl : (base.take (I * sz + j) ++ u.cells.toList ++ base.drop (I * sz + j + u.cells.toList.length)).length = base.length := by
   simp only [List.length_append, List.length_take, List.length_drop]; omega
  have hT : ((E.o2 .fA e (.o2 .bT i (rowOf (dG e i j es 0 ks.len)))).den env).T = (e.den env).T.set I ((dG e i j es 0 ks.len).map (E.den env)) := by
   have e1 : ((E.o2 .bT i (rowOf (dG e i j es 0 ks.len))).den env).row = i.den env :: (dG e i j es 0 ks.len).map (E.den env) := by
    show i.den env :: ((rowOf _).den env).T.head?.getD [] = _; rw [j6]
   show List.set _ _ _ = _; rw [e1]; show List.set _ (i.den env).I.toNat _ = _; rw [hIn]; rfl
  have hrow : eH env ρ sz len (bX ks (.o2 .fA e (.o2 .bT i (rowOf (dG e i j es 0 ks.len)))) 0) [] (base.take (I * sz + j) ++ u.cells.toList ++ base.drop (I * sz + j + u.cells.toList.length)) := by
   refine ⟨_, [], (List.append_nil _).symm, by rw [hbl, r1], fun m hm c bY hcol => ?_, rfl, (fun t ht => by cases ht), by rw [qx, hkl]; exact Nat.le_refl _⟩
   obtain ⟨k, hk, rfl⟩ := nF hcol; have hcs : c < sz := by rw [<- hkl]; exact aJ.A6 hk
   obtain ⟨gp, _⟩ := rm (f := fun j => base[m * sz + j]?) hp fun mm bY hm2 => by
    have := r2 m hm mm bY hm2; rw [Nat.zero_add]; exact this
   obtain ⟨v0, a1, a2⟩ := gp.get hk; rw [Nat.zero_add] at a1 a2
   have hat : ∀ d : Dv, (E.o2 (.cell (0 + c)) (.o2 .fA e (.o2 .bT i (rowOf (dG e i j es 0 ks.len)))) (.il m)).den env = (((e.den env).T.set I ((dG e i j es 0 ks.len).map (E.den env)))[m]?.getD [])[c]?.getD (.i 0) := fun _ => by
    show ((((E.o2 .fA e (.o2 .bT i (rowOf (dG e i j es 0 ks.len)))).den env).T[(m : Int).toNat]?).getD [])[0 + c]?.getD (.i 0) = _; rw [hT, Int.toNat_natCast, Nat.zero_add]
   have htk : (base.take (I * sz + j)).length = I * sz + j := by rw [List.length_take]; omega
   by_cases hmI : m = I
   ·subst hmI
    have hr1 : (((e.den env).T.set m ((dG e i j es 0 ks.len).map (E.den env)))[m]?.getD [])[c]?.getD (.i 0) = (((dG e i j es 0 ks.len)[c]?).map (E.den env)).getD (.i 0) := by
     rw [List.getElem?_set_self hIe, Option.getD_some, List.getElem?_map]
    by_cases hjc : j <= c
    ·by_cases hcn : c - j < es.length
     ·have hkk : (pE (jZ ks j) y.cells.length).get (c - j) = some k := by
        rw [oW (by omega), o6, show j + (c - j) = c by omega]; exact hk
      obtain ⟨v1, q1, q2⟩ := k1.get hkk; rw [Nat.zero_add] at q1 q2; refine ⟨v1, ?_, ?_⟩
      ·rw [List.append_assoc, List.getElem?_append_right (by rw [htk]; omega), htk, show m * sz + c - (m * sz + j) = c - j by omega, List.getElem?_append_left (by simp; omega)]
       exact q1
      ·rw [ch.at, cM, hat (.i 0), hr1, ja (by omega), Nat.zero_add, show Nat.ble j c = true from Nat.ble_eq_true_of_le hjc, List.getElem?_eq_getElem hcn]
       rw [List.getElem?_map, List.getElem?_eq_getElem hcn] at q2; exact q2
     ·refine ⟨v0, ?_, ?_⟩
      ·have hul2 : u.cells.toList.length = es.length := by simp [hesl]
       rw [List.append_assoc, List.getElem?_append_right (by rw [htk]; omega), htk, List.getElem?_append_right (by omega), List.getElem?_drop, <- a1]
       congr 1; omega
      ·rw [ch.at, cM, hat (.i 0), hr1, ja (by omega), Nat.zero_add, show Nat.ble j c = true from Nat.ble_eq_true_of_le hjc, List.getElem?_eq_none (by omega)]
       show k.Rel ρ.fz ((e.den env).at (i.den env).I.toNat c) v0; rw [hIn]; exact a2
    ·refine ⟨v0, ?_, ?_⟩
     ·rw [List.append_assoc, List.getElem?_append_left (by rw [htk]; omega), List.getElem?_take_of_lt (by omega)]; exact a1
     ·rw [ch.at, cM, hat (.i 0), hr1, ja (by omega), Nat.zero_add, show Nat.ble j c = false from by rw [Bool.eq_false_iff]; intro hb; exact hjc (Nat.le_of_ble_eq_true hb)]
      show k.Rel ρ.fz ((e.den env).at (i.den env).I.toNat c) v0; rw [hIn]; exact a2
   ·refine ⟨v0, ?_, ?_⟩
    ·rcases Nat.lt_or_gt_of_ne hmI with hlt' | hgt
     ·have : m * sz + sz <= I * sz := by rw [<- Nat.succ_mul]; exact Nat.mul_le_mul_right _ hlt'
      rw [List.append_assoc, List.getElem?_append_left (by rw [htk]; omega), List.getElem?_take_of_lt (by omega)]; exact a1
     ·have : I * sz + sz <= m * sz := by rw [<- Nat.succ_mul]; exact Nat.mul_le_mul_right _ hgt
      rw [List.append_assoc, List.getElem?_append_right (by rw [htk]; omega), htk, List.getElem?_append_right (by omega), List.getElem?_drop, <- a1]
      congr 1; omega
    ·rw [ch.at, cM, hat (.i 0), List.getElem?_set_ne (fun h => hmI h.symm)]; exact a2
  exact H.update ho rfl g1 rfl ⟨p, _, rest, g1, g2, g3, g4, hrow, by rw [List.length_append, hbl]; simpa using g6, by
   have := bq (w := w) (o := .cells (putCells (base ++ [] ++ rest).toArray (I * sz + j) u.cells.toList) T (0, 0)) g7; rw [this]
   congr 2
   rw [<- Array.toList_inj, hnew]⟩
theorem F8 (H : az env w0 ρ h w) {t : TypeId} {x y : SV} {v u : Value} {b : Unit} (hx : x.Rel env ρ v) (hy : y.Rel env ρ u) (he : (Bj P t x y).bx env h b h') : q8 P env w0 ρ h' w (Instr.storeAt t v u) := by
 have iM : ∀ {x : SV} {h : aL}, az env w0 ρ h w -> x.Rel env ρ v -> (qP P t x y).bx env h b h' -> q8 P env w0 ρ h' w (Instr.storeAt t v u) := fun H hx he => by
  obtain ⟨w', g1, g2⟩ := I6 H hx hy he; exact ⟨w', ρ, g1, af.le_refl ρ, rfl, g2⟩
 unfold Bj at he; split at he
 ·simp only [SV.Rel] at hx; exact zD H hx hy he
 ·simp only [run_bind, aU] at he; obtain ⟨o, _, ⟨ho, rfl⟩, he⟩ := he; split at he
  ·split at he
   ·exact Kg H ho hx hy he
   ·exact iM H hx he
  ·exact iM H hx he
 ·simp only [run_bind, aU] at he; obtain ⟨o, _, ⟨ho, rfl⟩, he⟩ := he; split at he
  ·exact zD H (GC H ho hx) hy he
  ·exact iM H hx he
 ·exact iM H hx he
theorem Fq (H : az env w0 ρ h w) {t : TypeId} {x r : SV} {v : Value} {f : Nat} (hx : x.Rel env ρ v) (he : (BS P t x f).bx env h r h') : aF P env w0 ρ nm h' w (Instr.fieldAt t v f) r := by
 unfold BS at he; split at he
 ·rename_i T i j; simp only [run_bind, bU, bF] at he; obtain ⟨_, _, ⟨h0, rfl⟩, u, _, ⟨hu, rfl⟩, he⟩ := he; rw [cq] at h0; simp only [SV.Rel] at hx; cases u with
  | struct fields =>
    simp only [run_bind, ae] at he; obtain ⟨fd, _, ⟨hf, rfl⟩, sz, _, ⟨hsz, rfl⟩, he⟩ := he; obtain ⟨ti, hi, rfl⟩ := dc hsz; cases hs : ti.size with
    | zero =>
      rw [hs] at he; simp only [run_bind, aq, run_pure, pM] at he; obtain ⟨a, _, ⟨ha, rfl⟩, _, _, ⟨hb1, rfl⟩, _, _, ⟨h00, rfl⟩, _, _, ⟨hb2, rfl⟩, rfl, rfl⟩ := he; obtain ⟨b, vs, rfl, _, _, hw, _, _⟩ := AP H ha hx h0; have h00 : 0 < P.cellsOf T := by simp only [Nat.blt] at h00; exact Nat.le_of_ble_eq_true h00
      obtain ⟨n1, e1⟩ := m3 (P := P) (o := j) hw h00 hb1; obtain ⟨n2, e2⟩ := m3 (P := P) (o := j + fd.offset) hw h00 hb2; refine ⟨.pointer (some (if n2 = n1 + fd.byteOffset then ⟨b, j + fd.offset, none⟩ else ⟨b, j + fd.offset, some (n1 + fd.byteOffset)⟩)), w, ρ, ?_, af.le_refl ρ, fun n hn => .inl hn, H, ⟨_, rfl⟩⟩
      simp only [Instr.fieldAt, Instr.sureAddr, fieldPlace, partAt, Sem.run_bind, aN hu, hf, Result.andThen_ok, Sem.run_pure, cb hi, hs, if_true, e1, e2]
    | succ k =>
      rw [hs] at he; simp only [run_pure] at he; obtain ⟨rfl, rfl⟩ := he; rcases hx with ⟨h2, _⟩ | ⟨_, b, hb, rfl⟩
      ·have h0 : (0 : Int) <= (i.den env).I := h0; omega
      ·refine aF.same H (v := .pointer (some ⟨b, j + fd.offset, none⟩)) ?_ (by simp only [SV.Rel]; exact .inr ⟨h0, b, hb, rfl⟩)
       have : ¬ (ti.size = 0) := by omega
       simp [Instr.fieldAt, Instr.sureAddr, fieldPlace, aN hu, hf, cb hi, this, cT]
  | _ => exact he.elim
 ·rename_i n j; simp only [run_bind, aU] at he; obtain ⟨o, _, ⟨ho, rfl⟩, he⟩ := he; split at he
  ·simp only [run_bind, bF] at he; obtain ⟨u, _, ⟨hu, rfl⟩, he⟩ := he; simp only [SV.Rel] at hx; obtain ⟨p, hp, rfl⟩ := hx; cases u with
   | struct fields =>
     simp only [run_bind, ae] at he; obtain ⟨fd, _, ⟨hf, rfl⟩, sz, _, ⟨hsz, rfl⟩, he⟩ := he; obtain ⟨ti, hi, rfl⟩ := dc hsz; cases hs : ti.size with
     | zero => rw [hs] at he; exact he.elim
     | succ k =>
       rw [hs] at he; simp only [run_pure] at he; obtain ⟨rfl, rfl⟩ := he; refine aF.same H ?_ ⟨p, hp, rfl⟩; have : ¬ (ti.size = 0) := by omega
       simp [Instr.fieldAt, Instr.sureAddr, fieldPlace, aN hu, hf, cb hi, this, cT, mg.den, Nat.add_assoc]
   | _ => exact he.elim
  ·exact zp H hx he
 ·exact zp H hx he
theorem DL {kk : KK} {a b : Dv} : cf (kk.dv a) (kk.dv b) = kk.q.eq a b := by cases kk <;> rfl
theorem jm {kk : KK} {d : Dv} : kk.ok (kk.dv d) := by cases kk <;> exact ⟨_, rfl⟩
theorem xn {kk : KK} {x : SV} {k : E} {u : Value} (h1 : lj kk x = true) (h2 : Nj x = some k) (hx : x.Rel env ρ u) : u = kk.dv (k.den env) := by
 cases kk <;> cases x <;> simp only [lj] at h1 <;> try (cases h1; done)
 all_goals simp only [Nj, Option.some.injEq] at h2
 all_goals subst h2
 all_goals simp only [SV.Rel] at hx
 ·rw [gA h1]; exact hx
 ·exact hx
 ·exact hx
theorem Hj {d : TypeDesc} {kk : KK} (hk : yu d = some kk) {ag : Bool} {ks : aJ} {fz : Fz} {kd : Dv} : ∀ {es : List MapEntry} {l : List (List Dv)}, cZ kk ag ks fz es l -> ∀ i : Nat,
    (dL kk.q kd l = none /\ Instr.findNow d (kk.dv kd) es i = some none /\ ∀ e ∈ es, e.key ≠ kk.dv kd) \/
    ∃ j e r, dL kk.q kd l = some j /\ es[j]? = some e /\ l[j]? = some r /\ Instr.findNow d (kk.dv kd) es i = some (some (i + j, e.val)) /\ e.key = kk.dv kd /\ DQ kk ag ks fz e r
 | _, _, .nil, i => .inl ⟨rfl, rfl, fun e he => by cases he⟩
 | e :: es, r :: l, .cons h1 h2, i => by
   have hke : e.key = kk.dv (r.headD (.i 0)) := h1.1; have hok : kk.ok e.key := by rw [hke]; exact jm
   have hq : cf e.key (kk.dv kd) = kk.q.eq (r.headD (.i 0)) kd := by rw [hke, DL]
   unfold Instr.findNow dL; rw [vR hk jm hok, hq]; cases hb : kk.q.eq (r.headD (.i 0)) kd with
   | true => exact .inr ⟨0, e, r, rfl, rfl, rfl, rfl, (eG hok jm).1 (hq.trans hb), h1⟩
   | false =>
     have hne := (dq hok jm).1 (hq.trans hb); rcases Hj hk h2 (i + 1) with ⟨g1, g2, g3⟩ | ⟨j, e', r', g1, g2, g3, g4, g5, g6⟩
     ·refine .inl ⟨by simp [g1], g2, fun x hx => ?_⟩
      rcases List.mem_cons.1 hx with rfl | hx
      ·exact hne
      ·exact g3 x hx
     ·refine .inr ⟨j + 1, e', r', by simp [g1], by simpa using g2, by simpa using g3, ?_, g5, g6⟩
      rw [show i + (j + 1) = i + 1 + j by omega]
      exact g4
theorem pz {q : KQ} {k : Dv} : ∀ {l : List (List Dv)} {j : Nat}, dL q k l = some j -> ∃ r, l[j]? = some r /\ q.eq (r.headD (.i 0)) k = true
 | [], _, h => by cases h
 | x :: l, j, h => by
   unfold dL at h; cases hb : q.eq (x.headD (.i 0)) k with
   | true => rw [hb] at h; simp only [cond_true, Option.some.injEq] at h; subst h; exact ⟨x, rfl, hb⟩
   | false =>
     rw [hb] at h; simp only [cond_false, Option.map_eq_some_iff] at h; obtain ⟨i, hi, rfl⟩ := h; obtain ⟨r, h1, h2⟩ := pz hi; exact ⟨r, by simpa using h1, h2⟩
theorem tf {q : KQ} {k : Dv} : ∀ {l : List (List Dv)}, dL q k l = none -> ∀ r ∈ l, q.eq (r.headD (.i 0)) k = false
 | [], _, r, hr => by cases hr
 | x :: l, h, r, hr => by
   unfold dL at h; cases hb : q.eq (x.headD (.i 0)) k with
   | true => rw [hb] at h; cases h
   | false =>
     rw [hb] at h; simp only [cond_false, Option.map_eq_none_iff] at h; rcases List.mem_cons.1 hr with rfl | hr
     ·exact hb
     ·exact tf h r hr
theorem oq {α : Type} : ∀ {l : List α} {j : Nat} {r : α}, l[j]? = some r -> (r :: l.eraseIdx j).Perm l
 | [], _, _, h => by cases h
 | x :: l, 0, r, h => by simp at h; subst h; exact List.Perm.refl _
 | x :: l, j + 1, r, h => by
   have := oq (l := l) (j := j) (r := r) (by simpa using h)
   exact (List.Perm.swap x r _).trans (this.cons x)
theorem tK {α : Type} : ∀ {l : List α} {j : Nat} {r y : α}, l[j]? = some r -> (y :: l.eraseIdx j).Perm (l.set j y)
 | [], _, _, _, h => by cases h
 | x :: l, 0, r, y, h => List.Perm.refl _
 | x :: l, j + 1, r, y, h => by
   have := tK (l := l) (j := j) (r := r) (y := y) (by simpa using h)
   exact (List.Perm.swap x y _).trans (this.cons x)
theorem tV {α : Type} {l l' : List α} {i j : Nat} {r : α} (h : l'.Perm l) (hi : l'[i]? = some r) (hj : l[j]? = some r) : (l'.eraseIdx i).Perm (l.eraseIdx j) :=
 ((oq hi).trans (h.trans (oq hj).symm)).cons_inv
theorem Ji {α : Type} {l l' : List α} {i j : Nat} {r y : α} (h : l'.Perm l) (hi : l'[i]? = some r) (hj : l[j]? = some r) : (l'.set i y).Perm (l.set j y) :=
 (tK hi).symm.trans (((tV h hi hj).cons y).trans (tK hj))
theorem Sj {kk : KK} {a b : Dv} : kk.dv a = kk.dv b ↔ kk.q.eq a b = true := by
 rw [<- DL]; exact (eG jm jm).symm
theorem GG {kk : KK} {ag : Bool} {ks : aJ} {fz : Fz} : ∀ {es : List MapEntry} {l : List (List Dv)}, cZ kk ag ks fz es l -> (es.Pairwise fun a b => a.key ≠ b.key) -> l.Pairwise fun a b => kk.dv (a.headD (.i 0)) ≠ kk.dv (b.headD (.i 0))
 | _, _, .nil, _ => .nil
 | _, _, .cons (l := l) h1 h2, hp => by
   obtain ⟨p1, p2⟩ := List.pairwise_cons.1 hp; refine List.pairwise_cons.2 ⟨fun r hr => ?_, GG h2 p2⟩
   have : ∀ {es : List MapEntry} {l : List (List Dv)}, cZ kk ag ks fz es l -> ∀ r ∈ l, ∃ e ∈ es, DQ kk ag ks fz e r := by
    intro es l h
    induction h with
    | nil => intro r hr; cases hr
    | cons a _ ih =>
      intro r hr; rcases List.mem_cons.1 hr with rfl | hr
      ·exact ⟨_, List.mem_cons_self .., a⟩
      ·obtain ⟨e, h1, h2⟩ := ih r hr; exact ⟨e, List.mem_cons_of_mem _ h1, h2⟩
   obtain ⟨e, he, hok⟩ := this h2 r hr; rw [<- h1.1, <- hok.1]; exact p1 e he
theorem EX {kk : KK} {k : Dv} {l l' : List (List Dv)} (h : l'.Perm l) (hd : l'.Pairwise fun a b => kk.dv (a.headD (.i 0)) ≠ kk.dv (b.headD (.i 0))) {i : Nat} {r : List Dv} (hi : dL kk.q k l' = some i) (hr : l'[i]? = some r) :
    ∃ j, dL kk.q k l = some j /\ l[j]? = some r := by
 obtain ⟨r', h1, h2⟩ := pz hi; rw [hr] at h1; injection h1 with h1; subst h1; have hm : r ∈ l := h.mem_iff.1 (List.mem_of_getElem? hr); cases hj : dL kk.q k l with
 | none => have := tf hj r hm; rw [h2] at this; cases this
 | some j =>
   obtain ⟨r2, g1, g2⟩ := pz hj; refine ⟨j, rfl, ?_⟩; have : r2 ∈ l' := h.mem_iff.2 (List.mem_of_getElem? g1); have e : kk.dv (r2.headD (.i 0)) = kk.dv (r.headD (.i 0)) := by rw [Sj.2 g2, Sj.2 h2]
   have uniq : ∀ {l : List (List Dv)}, (l.Pairwise fun a b => kk.dv (a.headD (.i 0)) ≠ kk.dv (b.headD (.i 0))) -> ∀ {x y : List Dv}, x ∈ l -> y ∈ l -> kk.dv (x.headD (.i 0)) = kk.dv (y.headD (.i 0)) -> x = y := by
    intro l hp
    induction hp with
    | nil => intro x y hx; cases hx
    | cons h _ ih =>
      intro x y hx hy he; rcases List.mem_cons.1 hx with ex | hx1
      ·rcases List.mem_cons.1 hy with ey | hy1
       ·rw [ex, ey]
       ·exact absurd he (by rw [ex]; exact h _ hy1)
      ·rcases List.mem_cons.1 hy with ey | hy1
       ·exact absurd he.symm (by rw [ey]; exact h _ hx1)
       ·exact ih hx1 hy1 he
   rw [g1, uniq hd this (List.mem_of_getElem? hr) e]
theorem rQ {d : TypeDesc} {kk : KK} (hk : yu d = some kk) {ag : Bool} {ks : aJ} {fz : Fz} {kd : Dv} {es : List MapEntry} {l l' : List (List Dv)} (hp : l'.Perm l) (hd : cZ kk ag ks fz es l') (hn : es.Pairwise fun a b => a.key ≠ b.key) (i : Nat) :
    (dL kk.q kd l = none /\ Instr.findNow d (kk.dv kd) es i = some none /\ ∀ e ∈ es, e.key ≠ kk.dv kd) \/
    ∃ j j' e r, dL kk.q kd l = some j /\ es[j']? = some e /\ l[j]? = some r /\ l'[j']? = some r /\ Instr.findNow d (kk.dv kd) es i = some (some (i + j', e.val)) /\ e.key = kk.dv kd /\ DQ kk ag ks fz e r := by
 rcases Hj hk (kd := kd) hd i with ⟨g1, g2, g3⟩ | ⟨j, e, r, g1, g2, g3, g4, g5, g6⟩
 ·refine .inl ⟨?_, g2, g3⟩; cases hj : dL kk.q kd l with
  | none => rfl
  | some j =>
    obtain ⟨r, h1, h2⟩ := pz hj; have := tf g1 r (hp.mem_iff.2 (List.mem_of_getElem? h1)); rw [h2] at this; cases this
 ·obtain ⟨j2, h1, h2⟩ := EX hp (GG hd hn) g1 g3; exact .inr ⟨j2, j, e, r, h1, g2, h2, g3, g4, g5, g6⟩
theorem cZ.length {kk : KK} {ag : Bool} {ks : aJ} {fz : Fz} : ∀ {es : List MapEntry} {l : List (List Dv)}, cZ kk ag ks fz es l -> es.length = l.length
 | _, _, .nil => rfl
 | _, _, .cons _ r => by simp [cZ.length r]
theorem cZ.set {kk : KK} {ag : Bool} {ks : aJ} {fz : Fz} {e' : MapEntry} {r' : List Dv} (h' : DQ kk ag ks fz e' r') : ∀ {es : List MapEntry} {l : List (List Dv)} {j : Nat}, cZ kk ag ks fz es l -> cZ kk ag ks fz (es.set j e') (l.set j r')
 | _, _, _, .nil => .nil
 | _, _, 0, .cons _ r => .cons h' r
 | _, _, j + 1, .cons h r => .cons h (cZ.set h' r)
theorem cZ.snoc {kk : KK} {ag : Bool} {ks : aJ} {fz : Fz} {e' : MapEntry} {r' : List Dv} (h' : DQ kk ag ks fz e' r') : ∀ {es : List MapEntry} {l : List (List Dv)}, cZ kk ag ks fz es l -> cZ kk ag ks fz (es ++ [e']) (l ++ [r'])
 | _, _, .nil => .cons h' .nil
 | _, _, .cons h r => .cons h (cZ.snoc h' r)
theorem cZ.erase {kk : KK} {ag : Bool} {ks : aJ} {fz : Fz} : ∀ {es : List MapEntry} {l : List (List Dv)} {j : Nat}, cZ kk ag ks fz es l -> cZ kk ag ks fz (es.eraseIdx j) (l.eraseIdx j)
 | _, _, _, .nil => .nil
 | _, _, 0, .cons _ r => r
 | _, _, j + 1, .cons h r => .cons h (cZ.erase r)
theorem mo {x : SV} {m : Option (Nat × KK × Bool × aJ × E × Option Nat)} : (yd x).bx env h m h' -> h = h' /\ (m = none \/ ∃ n kk ag ks e it, m = some (n, kk, ag, ks, e, it) /\ x = .map n /\ ay h n = some (.k7 kk ag ks e it)) := by
 intro he; unfold yd at he; split at he
 ·rename_i n; simp only [run_bind, aU] at he; obtain ⟨o, _, ⟨ho, rfl⟩, he⟩ := he; split at he
  ·rename_i kk ag ks e it; simp only [run_pure] at he; obtain ⟨rfl, rfl⟩ := he; exact ⟨rfl, .inr ⟨n, kk, ag, ks, e, it, rfl, rfl, ho⟩⟩
  ·simp only [run_pure] at he; obtain ⟨rfl, rfl⟩ := he; exact ⟨rfl, .inl rfl⟩
 ·simp only [aT] at he; exact ⟨he.2, .inl he.1.symm⟩
theorem tA {ks : aJ} {fz : Fz} {e i : E} {r : List Dv} {vs : List Value} (hr : (e.den env).T[(i.den env).I.toNat]? = some r) (hrel : ks.Rel ρ.fz (fun j => r.tail[j]?.getD (.i 0)) (fun j => vs[j]?) 0) :
    ∀ {n j : Nat} {l : List SV}, sU ks e i j n = some l -> ∃ us, SV.aD env ρ l us /\ us.length = n /\ ∀ k u, us[k]? = some u -> vs[j + k]? = some u
 | 0, j, l, h => by
   simp only [sU, Option.some.injEq] at h; subst h; exact ⟨[], rfl, rfl, fun k u hk => by simp at hk⟩
 | n + 1, j, l, h => by
   unfold sU at h; split at h
   ·rename_i k l' hk hl; injection h with h; subst h; obtain ⟨v, hv, hd⟩ := hrel.get hk; obtain ⟨us, g1, g2, g3⟩ := tA (fz := fz) hr hrel hl; rw [Nat.zero_add] at hv hd
    have e1 : ((E.o2 (.cell (j + 1)) e i).den env) = r.tail[j]?.getD (.i 0) := by
     show (((e.den env).T[(i.den env).I.toNat]?).getD [])[j + 1]?.getD (.i 0) = _; rw [hr]; simp
    refine ⟨v :: us, ⟨v, us, rfl, cM.2 (by rw [e1]; exact hd), g1⟩, by simp [g2], fun m u hm => ?_⟩
    cases m with
    | zero => simp at hm; subst hm; exact hv
    | succ m =>
      rw [show j + (m + 1) = j + 1 + m by omega]
      exact g3 m u (by simpa using hm)
   ·cases h
theorem vz {vs us : List Value} (hl : us.length = vs.length) (h : ∀ k u, us[k]? = some u -> vs[0 + k]? = some u) : us = vs := by
 apply List.ext_getElem?
 intro k
 by_cases hk : k < us.length
 ·rw [List.getElem?_eq_getElem hk]; have := h k _ (List.getElem?_eq_getElem hk); rw [Nat.zero_add] at this; exact this.symm
 ·rw [List.getElem?_eq_none (by omega), List.getElem?_eq_none (by omega)]
theorem IV {x : SV} {v : Value} (hs : x.shut = true) (ha : x.kp = false) (hr : x.Rel env ρ v) : v.cells = #[v] := by
 cases x with
 | agg l => cases ha
 | val c i => cases hs
 | top => cases hs
 | B1 _ => cases hs
 | _ =>
   simp only [SV.Rel] at hr
   first
    | (subst hr; rfl)
    | (rcases hr with ⟨_, rfl⟩ | ⟨_, _, _, rfl⟩ <;> rfl)
    | (obtain ⟨_, _, _, rfl, _⟩ := hr; rfl)
    | (obtain ⟨_, _, rfl, _⟩ := hr; rfl)
    | (obtain ⟨_, _, rfl⟩ := hr; rfl)
    | (obtain ⟨_, rfl, _⟩ := hr; rfl)
    | (obtain ⟨_, rfl⟩ := hr; rfl)
    | (simp only [DK.Rel] at hr; obtain ⟨_, _, rfl, _⟩ := hr; rfl)
    | (obtain ⟨hr, _⟩ := hr; simp only [DK.Rel] at hr; obtain ⟨_, _, rfl, _⟩ := hr; rfl)
theorem Dd (H : az env w0 ρ h w) {t : TypeId} {x key r : SV} {v u : Value} {ok : Bool} (hx : x.Rel env ρ v) (hk : key.Rel env ρ u) (he : (wY P t x key ok).bx env h r h') :
    aF P env w0 ρ nm h' w (Instr.lookup t v u ok) r := by
 simp only [wY, run_bind] at he; obtain ⟨m, h1, hm, he⟩ := he; obtain ⟨rfl, hmm⟩ := mo hm; rcases hmm with rfl | ⟨n, kk, ag, ks, e, it, rfl, rfl, ho⟩
 ·exact Gv H hx hk he
 ·simp only [run_bind, kL, aq, gP, ae, gX] at he; obtain ⟨⟨kk', el⟩, _, ⟨⟨kt, kd, hu, hd, hkk⟩, rfl⟩, _, _, ⟨hko, rfl⟩, _, _, ⟨hks, rfl⟩, z, _, ⟨hz, rfl⟩, k, _, ⟨hkv, rfl⟩, b, _, ⟨hb, rfl⟩, he⟩ := he; simp only at hu hkk hko hz hks; have := c9 hks; subst this; obtain ⟨zv, hzr, hzx⟩ := AI (ρ := ρ) (env := env) hz w; have hkey := xn hko hkv hk; simp only [SV.Rel] at hx; obtain ⟨p, hp, rfl⟩ := hx; obtain ⟨q, es, clk, h1, h2, h3, h4, h5, h6, h7, h8⟩ := H.bk n _ ho; rw [hp] at h1; injection h1 with h1; subst h1
  have give : ∀ {y : SV} {b : Bool} {yv : Value} {hh : aL}, y.Rel env ρ yv -> (cond ok (Prog.ret (SV.fq [y, .bool (.bl b)])) (Prog.ret y)).bx env hh r h' -> hh = h' /\ r.Rel env ρ (if ok = true then .tuple #[yv, .bool b] else yv) := by
   intro y b yv hh hy hr; cases ok with
   | true => simp only [cond_true, aT] at hr; obtain ⟨rfl, rfl⟩ := hr; exact ⟨rfl, [yv, .bool b], rfl, _, _, rfl, hy, _, _, rfl, rfl, rfl⟩
   | false => simp only [cond_false, aT] at hr; obtain ⟨rfl, rfl⟩ := hr; exact ⟨rfl, hy⟩
  have hF : ((E.o2 (.mf kk.q) e k).den env).I = aP kk.q (k.den env) (e.den env).T := rfl; rw [CG, dS, hF] at hb; obtain ⟨l7, hp7, h7⟩ := h7; rcases rQ hkk (kd := k.den env) hp7 h7 h6.nodup 0 with ⟨g1, g2, g3⟩ | ⟨j, j', en, row, g1, g2, g3, g3', g4, g5, g6⟩
  ·have hm1 : aP kk.q (k.den env) (e.den env).T = -1 := by unfold aP; rw [g1]
   rw [hm1, decide_eq_false (by omega)] at hb
   subst hb; obtain ⟨rfl, hr⟩ := give hzx he; refine aF.same H ?_ hr; rw [<- hkey] at g2; simp only [Instr.lookup, Sem.run_bind, aN hu, Result.andThen_ok, cv h5, Sem.run_pure, cD hd hkk, dz hd g2, hzr]
  ·have hm1 : aP kk.q (k.den env) (e.den env).T = (j : Nat) := by unfold aP; rw [g1]
   rw [hm1, decide_eq_true (by omega)] at hb
   subst hb; simp only [run_bind, ae] at he; obtain ⟨l, _, ⟨hl, rfl⟩, he⟩ := he; rw [Nat.zero_add] at g4; rw [<- hkey] at g4
   have run : (Instr.lookup t (.map (some p.block)) u ok).run P w = .ok (if ok = true then .tuple #[en.val, .bool true] else en.val) w := by
    simp only [Instr.lookup, Sem.run_bind, aN hu, Result.andThen_ok, cv h5, Sem.run_pure, cD hd hkk, dz hd g4]
   obtain ⟨_, vs, v1, v2, v3⟩ := g6; obtain ⟨us, u1, u2, u3⟩ := tA (fz := ρ.fz) (e := e) (i := .o2 (.mf kk.q) e k) (r := row) (by rw [hF, hm1, Int.toNat_natCast]; exact g3) v2 hl
   obtain rfl := vz (by rw [u2, v1]) u3
   cases ag with
   | true =>
     simp only [if_true] at v3; obtain ⟨rfl, hr⟩ := give (y := .agg l) (yv := en.val) ⟨us, v3, u1⟩ he; exact aF.same H run hr
   | false =>
     simp only [Bool.false_eq_true, if_false] at v3
     match l, he with
     | [y], he =>
       rw [v3] at u1; simp only [SV.aD] at u1; obtain ⟨a, b, e1, e2, _⟩ := u1; injection e1 with e1 _; rw [<- e1] at e2; obtain ⟨rfl, hr⟩ := give e2 he; exact aF.same H run hr
     | [], he => exact he.elim
     | _ :: _ :: _, he => exact he.elim
theorem Cp {a b : Bool} (h : Nh a b = true) : a = b := by cases a <;> cases b <;> first | rfl | cases h
theorem tQ (H : az env w0 ρ h w) {t : TypeId} {x key y : SV} {v u yv : Value} {r : Unit} (hx : x.Rel env ρ v) (hk : key.Rel env ρ u) (hy : y.Rel env ρ yv) (he : (rI P t x key y).bx env h r h') :
    q8 P env w0 ρ h' w (Instr.mapUpdate t v u yv) := by
 simp only [rI, run_bind] at he; obtain ⟨m, h1, hm, he⟩ := he; obtain ⟨rfl, hmm⟩ := mo hm; rcases hmm with rfl | ⟨n, kk, ag, ks, e, it, rfl, rfl, ho⟩
 ·obtain ⟨w', g1, g2⟩ := Ga H hx hk hy he; exact ⟨w', ρ, g1, af.le_refl ρ, rfl, g2⟩
 ·simp only [run_bind, kL, aq, ae, aU] at he; obtain ⟨⟨kk', el⟩, _, ⟨⟨kt, kd, hu, hd, hkk⟩, rfl⟩, _, _, ⟨hko, rfl⟩, _, _, ⟨hks, rfl⟩, _, _, ⟨hag, rfl⟩, _, _, ⟨hsh, rfl⟩, k, _, ⟨hkv, rfl⟩, es, h2, hes, o, _, ⟨ho2, rfl⟩, he⟩ := he; simp only at hu hkk hko hks; have := c9 hks; subst this; have hag := Cp hag; have hcells := fL hsh hy; obtain ⟨ρ1, l1, p1, H1, n1, n2, k1⟩ := (s0 Hk).2 _ _ es h h2 ρ yv.cells.toList hes H hcells; split at he
  ·rename_i kk' ag' ks' e' it'; simp only [run_bind, aq, bD] at he; obtain ⟨_, _, ⟨hc, rfl⟩, rfl⟩ := he; simp only [Bool.and_eq_true] at hc; have := c9 hc.1.1; subst this; have := Cp hc.1.2; subst this; have := aJ.ax hc.2; subst this; have hkey := xn hko hkv hk; simp only [SV.Rel] at hx; obtain ⟨p, hp, rfl⟩ := hx; have hp1 : ρ1 n = some p := l1 n p hp; obtain ⟨q, mes, clk, a1, a2, a3, a4, a5, a6, a7, a8⟩ := H1.bk n _ ho2; rw [hp1] at a1; injection a1 with a1; subst a1
   have hval : CU ag ks ρ1.fz yv (es.map (E.den env)) := by
    refine ⟨yv.cells.toList, n1, k1 _ _ 0 (fun m _ => by rw [Nat.zero_add]) (fun m _ => by rw [Nat.zero_add]), ?_⟩
    cases hA : y.kp with
    | true =>
      rw [hA] at hag; subst hag; rw [if_pos rfl]; cases y with
      | agg l =>
        simp only [SV.Rel] at hy; obtain ⟨us, rfl, _⟩ := hy; simp [Value.cells]
      | _ => cases hA
    | false =>
      rw [hA] at hag; subst hag; rw [if_neg (by simp), IV hsh hA hy]
   have hrow : ((E.o2 .bT k (rowOf es)).den env).row = k.den env :: es.map (E.den env) := by
    show k.den env :: ((rowOf es).den env).T.head?.getD [] = _; rw [j6]
   have hT : ((E.o2 (.mp kk.q) e' (.o2 .bT k (rowOf es))).den env).T = jB kk.q (e'.den env).T (k.den env :: es.map (E.den env)) := by
    show jB kk.q _ (((E.o2 .bT k (rowOf es)).den env).row) = _; rw [hrow]
   obtain ⟨l7, hp7, a7⟩ := a7; rcases rQ hkk (kd := k.den env) hp7 a7 a6.nodup 0 with ⟨g1, g2, g3⟩ | ⟨j0, j, en, row, g1, g2, g3, g3', g4, g5, g6⟩
   ·rw [<- hkey] at g2 g3
    have hrun : (Instr.mapUpdate t (.map (some p.block)) u yv).run P w = .ok () (w.bd p.block (.map (mes.push { key := u, val := yv, born := clk }) (clk + 1))) := by
     simp only [Instr.mapUpdate, Sem.run_bind, aN hu, Result.andThen_ok, cv a5, cD hd hkk, dz hd g2, fG a5]
    refine ⟨_, ρ1, hrun, l1, p1, H1.update ho2 rfl hp1 rfl ⟨p, _, _, hp1, a2, a3, a4, bq a5, ?_, ?_, ko.no⟩⟩
    ·rw [Array.toList_push]; exact wF a6 (by rw [hkey]; exact jm) g3 rfl
    ·rw [Array.toList_push, hT]; unfold jB; simp only [List.headD_cons, g1]; exact ⟨l7 ++ [k.den env :: es.map (E.den env)], hp7.append_right _, a7.snoc ⟨hkey, hval⟩⟩
   ·rw [Nat.zero_add] at g4; rw [<- hkey] at g4 g5; have gj : mes[j]? = some en := by rw [<- Array.getElem?_toList]; exact g2
    have hjl : j < mes.size := (Array.getElem?_eq_some_iff.1 gj).1; have hej : mes[j] = en := by have := Array.getElem?_eq_getElem hjl; rw [gj] at this; exact (Option.some.inj this).symm
    have huk : kk.ok u := by rw [hkey]; exact jm
    have hrun : (Instr.mapUpdate t (.map (some p.block)) u yv).run P w = .ok () (w.bd p.block (.map (mes.modify j fun e => { e with key := u, val := yv }) clk)) := by
     simp only [Instr.mapUpdate, Sem.run_bind, aN hu, Result.andThen_ok, cv a5, cD hd hkk, dz hd g4, gj, Option.map_some, Option.getD_some, g5, CV huk, fG a5]
    have hmod : (mes.modify j fun e => { e with key := u, val := yv }).toList = mes.toList.set j { en with key := u, val := yv } := by
     apply List.ext_getElem?
     intro i; rw [Array.getElem?_toList, Array.getElem?_modify, List.getElem?_set, Array.getElem?_toList]
     by_cases e1 : j = i
     ·subst e1; simp [gj, hjl, hej]
     ·simp [e1]
    refine ⟨_, ρ1, hrun, l1, p1, H1.update ho2 rfl hp1 rfl ⟨p, _, _, hp1, a2, a3, a4, bq a5, ?_, ?_, ko.no⟩⟩
    ·rw [hmod]; exact sx a6 g2 g5.symm rfl
    ·rw [hmod, hT]; unfold jB; simp only [List.headD_cons, g1]; exact ⟨l7.set j (k.den env :: es.map (E.den env)), Ji hp7 g3' g3, a7.set ⟨hkey, hval⟩⟩
  ·exact he.elim
theorem Di (H : az env w0 ρ h w) {t t2 ty : TypeId} {x key r : SV} {v u : Value} (hx : x.Rel env ρ v) (hk : key.Rel env ρ u) (he : (xc P t x key).bx env h r h') :
    aF P env w0 ρ nm h' w (Builtin.delete_ #[t, t2] ty #[v, u]) r := by
 simp only [xc, run_bind] at he; obtain ⟨m, h1, hm, he⟩ := he; obtain ⟨rfl, hmm⟩ := mo hm; rcases hmm with rfl | ⟨n, kk, ag, ks, e, it, rfl, rfl, ho⟩
 ·exact EM H hx hk he
 ·simp only [run_bind, kL, aq, ae, bD, run_pure] at he; obtain ⟨⟨kk', el⟩, _, ⟨⟨kt, kd, hu, hd, hkk⟩, rfl⟩, _, _, ⟨hko, rfl⟩, _, _, ⟨hks, rfl⟩, k, _, ⟨hkv, rfl⟩, _, _, rfl, rfl, rfl⟩ := he; simp only at hu hkk hko hks; have := c9 hks; subst this; have hkey := xn hko hkv hk; simp only [SV.Rel] at hx; obtain ⟨p, hp, rfl⟩ := hx; obtain ⟨q, es, clk, h1, h2, h3, h4, h5, h6, h7, h8⟩ := H.bk n _ ho; rw [hp] at h1; injection h1 with h1; subst h1; have hT : ((E.o2 (.md kk.q) e k).den env).T = nW kk.q (e.den env).T (k.den env) := rfl; obtain ⟨l7, hp7, h7⟩ := h7; rcases rQ hkk (kd := k.den env) hp7 h7 h6.nodup 0 with ⟨g1, g2, g3⟩ | ⟨j0, j, en, row, g1, g2, g3, g3', g4, g5, g6⟩
  ·rw [<- hkey] at g2; refine ⟨.tuple #[], w.bd p.block (.map es clk), ρ, ?_, af.le_refl ρ, fun n hn => .inl hn, H.update ho rfl hp rfl ⟨p, es, clk, hp, h2, h3, h4, bq h5, h6, ?_, h8⟩, [], rfl, rfl⟩
   ·simp [Builtin.delete_, aN hu, cv h5, cD hd hkk, dz hd g2, fG h5]
   ·rw [hT]; unfold nW; rw [g1]; exact ⟨l7, hp7, h7⟩
  ·rw [Nat.zero_add] at g4; rw [<- hkey] at g4; have gj : es[j]? = some en := by rw [<- Array.getElem?_toList]; exact g2
   have hjl : j < es.size := (Array.getElem?_eq_some_iff.1 gj).1
   have her : (es.eraseIdxIfInBounds j).toList = es.toList.eraseIdx j := by
    unfold Array.eraseIdxIfInBounds; rw [dif_pos hjl, Array.toList_eraseIdx]
   refine ⟨.tuple #[], w.bd p.block (.map (es.eraseIdxIfInBounds j) clk), ρ, ?_, af.le_refl ρ, fun n hn => .inl hn, H.update ho rfl hp rfl ⟨p, _, clk, hp, h2, h3, h4, bq h5, ?_, ?_, h8.less (by rw [her]; exact List.eraseIdx_sublist _ _)⟩, [], rfl, rfl⟩
   ·simp [Builtin.delete_, aN hu, cv h5, cD hd hkk, dz hd g4, fG h5]
   ·rw [her]; exact uC h6 j
   ·rw [her, hT]; unfold nW; rw [g1]; exact ⟨l7.eraseIdx j, tV hp7 g3' g3, h7.erase⟩
theorem KG (H : az env w0 ρ h w) {t ty : TypeId} {x r : SV} {v : Value} (hx : x.Rel env ρ v) (he : (Li P t x).bx env h r h') : aF P env w0 ρ nm h' w (Builtin.len_ #[t] ty #[v]) r := by
 simp only [Li, run_bind] at he; obtain ⟨m, h1, hm, he⟩ := he; obtain ⟨rfl, hmm⟩ := mo hm; rcases hmm with rfl | ⟨n, kk, ag, ks, e, it, rfl, rfl, ho⟩
 ·exact Pg (ty := ty) H hx he
 ·simp only [run_bind, bF] at he; obtain ⟨u, _, ⟨hu, rfl⟩, he⟩ := he; split at he
  ·simp only [run_pure] at he; obtain ⟨rfl, rfl⟩ := he; simp only [SV.Rel] at hx; obtain ⟨p, hp, rfl⟩ := hx; obtain ⟨q, es, clk, h1, h2, h3, h4, h5, h6, h7, h8⟩ := H.bk n _ ho; rw [hp] at h1; injection h1 with h1; subst h1; refine aF.same H (v := .int .i64 (es.size : Nat)) ?_ ?_
   ·simp [Builtin.len_, aN hu, cv h5, goInt]
   ·simp only [SV.Rel]; rw [bA]; show _ = Value.int .i64 (((e.den env).T.length : Nat) : Int); obtain ⟨l7, hp7, h7⟩ := h7; rw [<- hp7.length_eq, <- h7.length]; simp
  ·exact he.elim
theorem Rg.of {kk : KK} {es : List MapEntry} {clk : Nat} (h : jM kk es clk) : Rg clk (es.map fun x => (x.key, x.born)) es :=
 ⟨List.Sublist.refl _, fun x hx => by obtain ⟨y, hy, rfl⟩ := List.mem_map.1 hx; exact h.born y hy, List.pairwise_map.2 h.apart, List.pairwise_map.2 h.nodup⟩
theorem II (H : az env w0 ρ h w) {t : TypeId} {x r : SV} {v : Value} (hx : x.Rel env ρ v) (he : (Eu P nm t x).bx env h r h') : aF P env w0 ρ nm h' w (Instr.range t v) r := by
 have main : ∀ {n : Nat} {kk : KK} {ag : Bool} {ks : aJ} {e : E} {o : aA} {kt el : TypeId}, x = .map n -> ay h n = some o -> o.owner = true -> (∀ p, ρ n = some p -> ∃ es clk, ¬ w0.K p.block /\ p.base = 0 /\ p.nil = false /\ w.heap[p.block]? = some (.map es clk) /\ jM kk es.toList clk /\ ∃ l, l.Perm (e.den env).T /\ cZ kk ag ks ρ.fz es.toList l) ->
     P.underlying t = some (.map kt el) -> ay h nm = some .dP -> r = .ptr nm (.c 0) -> h' = bf (bf h nm (.pf n kk (.il 0))) n (.k7 kk ag ks e (some nm)) -> aF P env w0 ρ nm h' w (Instr.range t v) r := by
  intro n kk ag ks e o kt el hxn ho hown hmap hu hn hr hh; subst hxn; subst hr; subst hh; simp only [SV.Rel] at hx; obtain ⟨p, hp, rfl⟩ := hx; obtain ⟨es, clk, h2, h3, h4, h5, h6, h7⟩ := hmap p hp; have hne : n ≠ nm := fun e1 => by rw [e1, H.bk nm .dP hn] at hp; cases hp
  have hle := af.mX (H.bk nm .dP hn) ⟨w.heap.size, 0, 0, false, some (clk, es.toList.map fun x => (x.key, x.born))⟩; have cW : p.block < w.heap.size := (Array.getElem?_eq_some_iff.1 h5).1
  have H1 := H.alloc (b := .mapIter (some p.block) clk #[] clk) (p := ⟨w.heap.size, 0, 0, false, some (clk, es.toList.map fun x => (x.key, x.born))⟩) (o := .pf n kk (.il 0)) hn rfl rfl
   ⟨_, p, clk, _, #[], ca _, H.below.fresh, rfl, rfl, hle _ _ hp, rfl, by simp, .nil⟩
  have hb : ({ w with heap := w.heap.push (.mapIter (some p.block) clk #[] clk) } : World).heap[p.block]? = some (.map es clk) := by
   show (w.heap.push _)[p.block]? = _; rw [Array.getElem?_push, if_neg (by omega)]; exact h5
  have ho1 : ay (bf h nm (.pf n kk (.il 0))) n = some o := by rw [ai, if_neg hne]; exact ho
  have H2 := H1.update (o' := .k7 kk ag ks e (some nm)) (b := .map es clk) ho1 hown (hle _ _ hp) rfl ⟨p, es, clk, hle _ _ hp, h2, h3, h4, bq hb, h6, h7,
   fun k hk => by injection hk with hk; subst hk; exact ⟨_, clk, _, ca _, rfl, rfl, Rg.of h6⟩⟩
  rw [pA hb] at H2; refine ⟨.pointer (some ⟨w.heap.size, 0, none⟩), _, _, ?_, hle, dU _, H2, ⟨_, ca _, rfl⟩⟩; simp only [Instr.range, Sem.run_bind, aN hu, Result.andThen_ok, cv h5, Sem.run_pure, newObj, Sem.run]
 simp only [Eu, run_bind] at he; obtain ⟨m, h1, hm, he⟩ := he; obtain ⟨rfl, hmm⟩ := mo hm; rcases hmm with rfl | ⟨n, kk, ag, ks, e, it, rfl, rfl, ho⟩
 ·dsimp only at he
  split at he
  ·rename_i n; simp only [run_bind, aU] at he; obtain ⟨o, _, ⟨ho, rfl⟩, he⟩ := he; split at he
   ·rename_i mm ix kk known; simp only [run_bind, bF] at he; obtain ⟨u, _, ⟨hu, rfl⟩, he⟩ := he; split at he
    ·simp only [run_bind, eB, bD, run_pure] at he; obtain ⟨_, _, ⟨hn, rfl⟩, _, _, rfl, rfl, rfl⟩ := he; refine main rfl ho rfl (fun p hp => ?_) hu hn rfl rfl; obtain ⟨q, es, clk, kv, h1, h2, h3, h4, h5, h6, h7, h8⟩ := H.bk n _ ho; rw [hp] at h1; injection h1 with h1; subst h1
     have hz : es.toList = [] := List.length_eq_zero_iff.1 (by
      have h7 : (es.size : Int) = 0 := h7
      rw [Array.length_toList]; omega)
     exact ⟨es, clk, h2, h3, h4, h5, h6, [], List.Perm.refl _, by rw [hz]; exact .nil⟩
    ·exact he.elim
   ·exact he.elim
  ·exact he.elim
 ·simp only [run_bind, bF] at he; obtain ⟨u, _, ⟨hu, rfl⟩, he⟩ := he; split at he
  ·simp only [run_bind, eB, bD, run_pure] at he; obtain ⟨_, _, ⟨hn, rfl⟩, _, _, rfl, rfl, rfl⟩ := he; refine main rfl ho rfl (fun p hp => ?_) hu hn rfl rfl; obtain ⟨q, es, clk, h1, h2, h3, h4, h5, h6, h7, h8⟩ := H.bk n _ ho; rw [hp] at h1; injection h1 with h1; subst h1; exact ⟨es, clk, h2, h3, h4, h5, h6, h7⟩
  ·exact he.elim
theorem Ce {w : World} {b s c : Nat} {m : Option Nat} {seen : Array Nat} (h : w.heap[b]? = some (.mapIter m s seen c)) : (getObj b).run P w = .ok (.mapIter m s seen c) w := by
 simp only [getObj, Sem.run, h]
theorem NV {V k : E} (h : Oo V = some k) : ∃ l, (V.den env).T = l ++ [[k.den env]] := by
 unfold Oo at h; split at h
 ·rename_i a k'; injection h with h; subst h; exact ⟨(a.den env).T, rfl⟩
 ·rename_i k'; injection h with h; subst h; exact ⟨[], rfl⟩
 ·cases h
theorem b7.last {kk : KK} {kb : List (Value × Nat)} {r : List Dv} : ∀ {l : List (List Dv)} {s : List Nat}, b7 kk kb (l ++ [r]) s -> ∃ b, s.getLast? = some b /\ (kk.dv (r.headD (.i 0)), b) ∈ kb
 | [], _, .cons a .nil => ⟨_, rfl, a⟩
 | _ :: [], _, .cons _ (.cons a .nil) => ⟨_, rfl, a⟩
 | x :: y :: l, _, .cons (b := b0) _ t => by
   obtain ⟨b, h1, h2⟩ := b7.last (l := y :: l) t; refine ⟨b, ?_, h2⟩; cases t with
   | cons _ t => rw [List.getLast?_cons_cons]; exact h1
theorem Rg.find {s : Nat} {kb : List (Value × Nat)} {es : List MapEntry} (R : Rg s kb es) {en : MapEntry} (he : en ∈ es) {b : Nat} (hk : (en.key, b) ∈ kb) : en.born = b := by
 have h1 : (en.key, en.born) ∈ kb := R.sub.subset (List.mem_map.2 ⟨en, he, rfl⟩)
 have : ∀ {l : List (Value × Nat)}, (l.Pairwise fun a b => a.1 ≠ b.1) -> ∀ {x y : Value × Nat}, x ∈ l -> y ∈ l -> x.1 = y.1 -> x = y := by
  intro l hp
  induction hp with
  | nil => intro x y hx; cases hx
  | cons h _ ih =>
    intro x y hx hy he; rcases List.mem_cons.1 hx with ex | hx1
    ·rcases List.mem_cons.1 hy with ey | hy1
     ·rw [ex, ey]
     ·exact absurd he (by rw [ex]; exact h _ hy1)
    ·rcases List.mem_cons.1 hy with ey | hy1
     ·exact absurd he.symm (by rw [ey]; exact h _ hx1)
     ·exact ih hx1 hy1 he
 have := this R.keys h1 hk rfl; injection this
theorem xd : ∀ {es : List MapEntry} {en : MapEntry}, (es.Pairwise fun a b => a.born ≠ b.born) -> en ∈ es -> es.find? (fun x => x.born == en.born) = some en
 | x :: es, en, hp, h => by
   obtain ⟨h1, h2⟩ := List.pairwise_cons.1 hp; rcases List.mem_cons.1 h with rfl | h
   ·simp
   ·rw [List.find?_cons_of_neg (by simpa using h1 _ h)]
    exact xd h2 h
theorem I3 (kk : KK) : ∃ d, yu d = some kk := by
 cases kk with
 | int k => exact ⟨.int k, rfl⟩
 | bool => exact ⟨.bool, rfl⟩
 | str => exact ⟨.string, rfl⟩
theorem Jh (H : az env w0 ρ h w) {x r : SV} {v : Value} (hx : x.Rel env ρ v) (he : (Gt x).bx env h r h') : aF P env w0 ρ nm h' w (Instr.entry v) r := by
 unfold Gt at he; split at he
 ·rename_i n; simp only [run_bind, aU] at he; obtain ⟨o, _, ⟨ho, rfl⟩, he⟩ := he; split at he
  ·rename_i m kk V; simp only [run_bind, aU, ae] at he; obtain ⟨k, _, ⟨hk, rfl⟩, o2, _, ⟨ho2, rfl⟩, he⟩ := he; split at he
   ·rename_i kk' ag ks e n'; simp only [run_bind, aq, gX, ae] at he; obtain ⟨_, _, ⟨hc, rfl⟩, b, _, ⟨hb, rfl⟩, _, _, ⟨hbt, rfl⟩, l, _, ⟨hl, rfl⟩, he⟩ := he; rw [Bool.and_eq_true] at hc; obtain rfl := Nat.eq_of_beq_eq_true hc.1; have := c9 hc.2; subst this; subst hbt; simp only [SV.Rel] at hx; obtain ⟨p, hp, rfl⟩ := hx; obtain ⟨p', q, s, kb, seen, i1, i2, i3, i4, i5, i6, i7, i8⟩ := H.bk n _ ho; rw [hp] at i1; injection i1 with i1; subst i1; obtain ⟨q', es, clk, h1, h2, h3, h4, h5, h6, h7, h8⟩ := H.bk m _ ho2; rw [i5] at h1; injection h1 with h1; subst h1; obtain ⟨p'', s', kb', j1, j2, rfl, R⟩ := h8 n rfl; rw [hp] at j1; injection j1 with j1; subst j1; rw [i6] at j2; injection j2 with j2; injection j2 with j2 j3; subst j2; subst j3; obtain ⟨l0, hV⟩ := NV (env := env) hk; rw [hV] at i8; obtain ⟨b, hb1, hb2⟩ := b7.last i8; obtain ⟨d, hd⟩ := I3 kk; have hF : ((E.o2 (.mf kk.q) e k).den env).I = aP kk.q (k.den env) (e.den env).T := rfl; rw [CG, dS, hF] at hb; have hb := of_decide_eq_true hb; obtain ⟨l7, hp7, h7⟩ := h7; rcases rQ hd (kd := k.den env) hp7 h7 h6.nodup 0 with ⟨g1, g2, g3⟩ | ⟨j, j', en, row, g1, g2, g3, g3', g4, g5, g6⟩
    ·exfalso; unfold aP at hb; rw [g1] at hb; simp at hb
    ·have hm1 : aP kk.q (k.den env) (e.den env).T = (j : Nat) := by unfold aP; rw [g1]
     have hen : en ∈ es.toList := List.mem_of_getElem? g2; have hbn := R.find hen (b := b) (by rw [g5]; exact hb2)
     have hfind : es.find? (fun x => x.born == b) = some en := by
      rw [<- Array.find?_toList, <- hbn]; exact xd h6.apart hen
     have hback : seen.back? = some b := by rw [<- hb1]; simp [Array.back?, List.getLast?_eq_getElem?]
     have hrun : (Instr.entry (.pointer (some ⟨p.block, p.base + (mg.c 0).den env, none⟩))).run P w = .ok (.tuple #[en.key, en.val]) w := by
      rw [i3]; simp only [Instr.entry, mg.den, Nat.add_zero, Sem.run_bind, Ce i7, cv h5, Result.andThen_ok, hback, Sem.run_pure, bne_self_eq_false, Bool.false_eq_true, if_false, hfind]
     obtain ⟨_, vs, v1, v2, v3⟩ := g6; obtain ⟨us, u1, u2, u3⟩ := tA (fz := ρ.fz) (e := e) (i := .o2 (.mf kk.q) e k) (r := row) (by rw [hF, hm1, Int.toNat_natCast]; exact g3) v2 hl
     obtain rfl := vz (by rw [u2, v1]) u3
     have hkey : (kk.sv k).Rel env ρ en.key := by rw [g5]; cases kk <;> rfl
     cases ag with
     | true =>
       simp only [if_true] at v3; simp only [run_pure] at he; obtain ⟨rfl, rfl⟩ := he; exact aF.same H hrun ⟨[en.key, en.val], rfl, _, _, rfl, hkey, _, _, rfl, ⟨us, v3, u1⟩, rfl⟩
     | false =>
       simp only [Bool.false_eq_true, if_false] at v3
       match l, he with
       | [y], he =>
         rw [v3] at u1; simp only [SV.aD] at u1; obtain ⟨a, b, e1, e2, _⟩ := u1; injection e1 with e1 _; rw [<- e1] at e2; simp only [run_pure] at he; obtain ⟨rfl, rfl⟩ := he; exact aF.same H hrun ⟨[en.key, en.val], rfl, _, _, rfl, hkey, _, _, rfl, e2, rfl⟩
       | [], he => exact he.elim
       | _ :: _ :: _, he => exact he.elim
   ·exact he.elim
  ·exact he.elim
 ·exact he.elim
theorem Lt (H : az env w0 ρ h w) {x r : SV} {v : Value} {ty : TypeId} (hx : x.Rel env ρ v) (he : (KA x).bx env h r h') : aF P env w0 ρ nm h' w (Instr.next v false ty) r := by
 unfold KA at he; split at he
 ·rename_i n; simp only [run_bind, aU] at he; obtain ⟨o, _, ⟨ho, rfl⟩, he⟩ := he; split at he
  ·rename_i m kk V; simp only [run_bind, aU] at he; obtain ⟨o2, _, ⟨ho2, rfl⟩, he⟩ := he; split at he
   ·rename_i kk' ag ks e n'; simp only [run_bind, aq, run_pure] at he; obtain ⟨_, _, ⟨hc, rfl⟩, rfl, rfl⟩ := he; simp only [Bool.and_eq_true] at hc; obtain rfl := Nat.eq_of_beq_eq_true hc.1.1
    have hno : (e.den env).T = [] := by
     have h1 := hc.2; unfold Ml at h1; split at h1
     ·rfl
     ·cases h1
    simp only [SV.Rel] at hx; obtain ⟨p, hp, rfl⟩ := hx; obtain ⟨p', q, s, kb, seen, i1, i2, i3, i4, i5, i6, i7, i8⟩ := H.bk n _ ho; rw [hp] at i1; injection i1 with i1; subst i1; obtain ⟨q', es, clk, h1, h2, h3, h4, h5, h6, ⟨l7, hp7, h7⟩, h8⟩ := H.bk m _ ho2; rw [i5] at h1; injection h1 with h1; subst h1; obtain ⟨p'', s', kb', j1, j2, rfl, R⟩ := h8 n rfl; rw [hp] at j1; injection j1 with j1; subst j1; rw [i6] at j2; injection j2 with j2; injection j2 with j2 j3; subst j2; subst j3; rw [hno] at hp7; have hl : l7 = [] := List.perm_nil.1 hp7; subst hl; have hes : es.toList = [] := by cases hd : es.toList with | nil => rfl | cons a b => rw [hd] at h7; cases h7
    have key := run_next_at (P := P) w ty p.block q.block s s seen es s i7 h5 (fun x hx => by rw [hes] at hx; cases hx) (Nat.le_refl _)
    rw [i3]; refine aF.same H (v := .tuple #[.bool false]) ?_ ⟨[.bool false], rfl, _, _, rfl, rfl, rfl⟩; rcases key with ⟨_, hr⟩ | ⟨en, hen, _⟩
    ·exact hr
    ·exfalso; unfold leftOf at hen; have : es = #[] := by rw [<- Array.toList_inj, hes]
     rw [this] at hen; simp at hen
   ·exact he.elim
  ·exact he.elim
 ·exact he.elim
end
section
variable {P : Program} {env : Env} {w0 : Anchor} {w : World} {ρ : af} {h h' : aL} {nm : Nat}
def ND (env : Env) (ρ : af) : ph -> Next -> Prop
 | .val x, n => ∃ v, n = .value v /\ x.Rel env ρ v
 | .skip, n => n = .skip
 | .call f args, n => ∃ vs, n = .enter f vs.toArray /\ SV.aD env ρ args vs
 | .defer fn cap args, n => ∃ cs vs, n = .defer { target := .fn fn cs.toArray, args := vs.toArray } /\ SV.aD env ρ cap cs /\ SV.aD env ρ args vs
def lZ (P : Program) (env : Env) (w0 : Anchor) (ρ : af) (nm : Nat) (h' : aL) (w : World) (s : Sem Next) (out : ph) : Prop :=
 ∃ n w' ρ', s.run P w = .ok n w' /\ ρ.le ρ' /\ (∀ n, ρ n = none -> ρ' n = none \/ n = nm) /\ az env w0 ρ' h' w' /\ ND env ρ' out n
theorem aF.value {s : Sem Value} {x : SV} (hs : aF P env w0 ρ nm h' w s x) : lZ P env w0 ρ nm h' w (do pure (.value (<- s))) (.val x) := by
 obtain ⟨v, w', ρ', h1, h2, h3, h4, h5⟩ := hs; exact ⟨.value v, w', ρ', by simp only [Sem.run_bind, h1, Result.andThen_ok, Sem.run_pure], h2, h3, h4, v, rfl, h5⟩
theorem bC {p : Prog SV} {out : ph} : (gf p).bx env h out h' ↔ ∃ x, out = .val x /\ p.bx env h x h' := by
 simp only [gf, run_bind, run_pure]; constructor
 ·rintro ⟨v, _, h1, rfl, rfl⟩; exact ⟨v, rfl, h1⟩
 ·rintro ⟨x, rfl, h1⟩; exact ⟨x, _, h1, rfl, rfl⟩
theorem xQ {ev : Operand -> Option SV} {g : Operand -> Value} (hev : ∀ x s, ev x = some s -> s.Rel env ρ (g x)) : ∀ {l : List Operand} {r : List SV} {h h' : aL},
    (LV ev l).bx env h r h' -> h = h' /\ SV.aD env ρ r (l.map g)
 | [], r, h, h', he => by simp only [LV, aT] at he; obtain ⟨rfl, rfl⟩ := he; exact ⟨rfl, rfl⟩
 | x :: l, r, h, h', he => by
   simp only [LV, run_bind, ae, run_pure] at he; obtain ⟨v, _, ⟨h1, rfl⟩, q, _, h2, rfl, rfl⟩ := he; obtain ⟨rfl, h3⟩ := xQ hev h2; exact ⟨rfl, g x, _, rfl, hev x v h1, h3⟩
theorem En {ev : Operand -> Option SV} {g : Operand -> Value} (hev : ∀ x s, ev x = some s -> s.Rel env ρ (g x)) : ∀ {l : List (Nat × Operand)} {r : List (Nat × SV)} {h h' : aL},
    (Ru ev l).bx env h r h' -> h = h' /\ jq env ρ r (l.map fun (i, x) => (i, g x))
 | [], r, h, h', he => by simp only [Ru, aT] at he; obtain ⟨rfl, rfl⟩ := he; exact ⟨rfl, .nil⟩
 | (i, x) :: l, r, h, h', he => by
   simp only [Ru, run_bind, ae, run_pure] at he; obtain ⟨v, _, ⟨h1, rfl⟩, q, _, h2, rfl, rfl⟩ := he; obtain ⟨rfl, h3⟩ := En hev h2; exact ⟨rfl, .cons (hev x v h1) h3⟩
theorem Be {ev : Operand -> Option SV} {g : Operand -> Value} (hev : ∀ x s, ev x = some s -> s.Rel env ρ (g x)) {o : Option Operand} {r : Option SV} {h h' : aL}
    (he : (Km ev o).bx env h r h') : h = h' /\ o8 env ρ r (o.map g) := by
 cases o with
 | none => simp only [Km, aT] at he; obtain ⟨rfl, rfl⟩ := he; exact ⟨rfl, .none⟩
 | some x =>
   simp only [Km, run_bind, ae, run_pure] at he; obtain ⟨v, _, ⟨h1, rfl⟩, rfl, rfl⟩ := he; exact ⟨rfl, .some (hev x v h1)⟩
def Plain (P : Program) : Prop := ∀ (f : FuncId) (fn : Func), P.funcs[f]? = some fn -> fn.body.isSome = true -> (fn.name == "runtime.NumGoroutine") = false
theorem CM (hP : Plain P) (H : az env w0 ρ h w) {f : FuncId} {args : List SV} {vs : List Value} {out : ph} (ha : SV.aD env ρ args vs) (he : (yW P f args).bx env h out h') :
    lZ P env w0 ρ nm h' w (callFunc f vs.toArray) out := by
 simp only [yW, run_bind, ae, aq, run_pure] at he; obtain ⟨fn, _, ⟨hf, rfl⟩, _, _, ⟨hb, rfl⟩, rfl, rfl⟩ := he; have hname := hP f fn hf hb; have hnone : fn.body.isNone = false := by cases hbb : fn.body <;> simp_all
 exact ⟨.enter f vs.toArray, w, ρ, by simp only [callFunc, Sem.run_bind, run_program, Result.andThen_ok, hf, hname, Bool.false_eq_true, if_false, hnone, Sem.run_pure], af.le_refl ρ, fun n hn => .inl hn, H, vs, rfl, ha⟩
def mOk : TypeDesc -> Bool -> Bool
 | .pointer _, b => b
 | _, b => !b
theorem Lh (hP : Plain P) (H : az env w0 ρ h w) {recv : SV} {rv : Value} {name : String} {args : List SV} {vs : List Value} {out : ph} (hr : recv.Rel env ρ rv) (ha : SV.aD env ρ args vs)
    (he : (LB P recv name args).bx env h out h') : lZ P env w0 ρ nm h' w (callMethod rv name vs.toArray) out := by
 cases recv with
 | eh t v =>
   simp only [SV.Rel] at hr; obtain ⟨u, rfl, hu⟩ := hr; simp only [LB, run_bind, eR, ae, aq, bF] at he; obtain ⟨i, _, ⟨hi, rfl⟩, m, _, ⟨hm, rfl⟩, _, _, ⟨hpath, rfl⟩, ty, _, ⟨hty, rfl⟩, he⟩ := he; have hp : m.path = #[] := by simpa using hpath
   obtain ⟨k, hk⟩ : ∃ k, P.types.size + Made.depth = k + 1 := ⟨P.types.size + 99, rfl⟩; have hargs : SV.aD env ρ (v :: args) (u :: vs) := ⟨u, vs, rfl, hu, ha⟩; have e : (#[u] : Array Value) ++ vs.toArray = (u :: vs).toArray := by apply Array.ext'; simp
   cases hf : m.func with
   | none => rw [hf] at he; exact he.elim
   | some q =>
     obtain ⟨f, ptr⟩ := q; rw [hf] at he
     have meth : mOk ty ptr = true ->
         (method (P.types.size + Made.depth) t u name).run P w = .ok (f, u) w := by
      intro hc; rw [hk]; simp only [method, Sem.run_bind, qc hi, Result.andThen_ok, hm, hp, Array.toList_empty, follow, Sem.run_pure, hf, receiverAt, aN hty]
      cases ty <;> cases ptr <;> first
       | (cases hc; done)
       | (simp only [Place.get, Sem.run_bind, Sem.run_pure, Result.andThen_ok]; done)
     have fin : mOk ty ptr = true -> (yW P f (v :: args)).bx env h out h' ->
         lZ P env w0 ρ nm h' w (callMethod (.iface t u) name vs.toArray) out := by
      intro hc hh; obtain ⟨n, w', ρ', h1, h2⟩ := CM hP H hargs hh; refine ⟨n, w', ρ', ?_, h2⟩; simp only [callMethod, Sem.run_bind, run_program, Result.andThen_ok, meth hc, e]; exact h1
     cases ty <;> cases ptr <;> first
      | exact he.elim
      | exact fin rfl he
 | _ => exact he.elim
theorem Rj {tys : Array TypeId} {ty : TypeId} {k k' : IntKind} {a b : Int} : (Builtin.min_ tys ty [Value.int k a, .int k' b].toArray).run P w = .ok (.int k (if b < a then b else a)) w := by
 simp only [Builtin.min_, List.foldlM_cons, List.foldlM_nil, Builtin.min2, Sem.run_bind, Sem.run_pure, Result.andThen_ok]
theorem P0 {tys : Array TypeId} {ty : TypeId} {k k' : IntKind} {a b : Int} : (Builtin.max_ tys ty [Value.int k a, .int k' b].toArray).run P w = .ok (.int k (if b > a then b else a)) w := by
 simp only [Builtin.max_, List.foldlM_cons, List.foldlM_nil, Builtin.max2, Sem.run_bind, Sem.run_pure, Result.andThen_ok]
theorem Cg (H : az env w0 ρ h w) {b : Builtin} {tys : Array TypeId} {ty : TypeId} {cs : Array Bool} {args : List SV} {vs : List Value} {out : ph} (ha : SV.aD env ρ args vs)
    (he : (wV P nm b tys.toList args).bx env h out h') : lZ P env w0 ρ nm h' w (builtin b tys ty cs vs.toArray) out := by
 unfold wV at he; split at he
 ·rename_i t x htys; simp only [run_bind, run_pure] at he; obtain ⟨v, _, hv, rfl, rfl⟩ := he; simp only [SV.aD] at ha; obtain ⟨y, _, rfl, hy, rfl⟩ := ha; have : tys = #[t] := by apply Array.ext'; exact htys
  subst this; exact (KG (ty := ty) H hy hv).value
 ·rename_i t u s x htys; simp only [run_bind, bF] at he; obtain ⟨d, _, ⟨hd, rfl⟩, he⟩ := he; cases d with
  | slice e2 =>
    simp only [run_bind, run_pure] at he; obtain ⟨v, _, hv, rfl, rfl⟩ := he; simp only [SV.aD] at ha; obtain ⟨y, _, rfl, hy, z, _, rfl, hz, rfl⟩ := ha; have : tys = #[t, u] := by apply Array.ext'; exact htys
    subst this; exact (Gp (ti := ty) H hy hz hd hv).value
  | _ => exact he.elim
 ·rename_i x; simp only [run_bind, run_pure] at he; obtain ⟨v, _, hv, rfl, rfl⟩ := he; simp only [SV.aD] at ha; obtain ⟨y, _, rfl, hy, rfl⟩ := ha; exact (IA (tys := tys) (ty := ty) H hy hv).value
 ·rename_i t u x k htys; simp only [run_bind, run_pure] at he; obtain ⟨v, _, hv, rfl, rfl⟩ := he; simp only [SV.aD] at ha; obtain ⟨y, _, rfl, hy, z, _, rfl, hz, rfl⟩ := ha; have : tys = #[t, u] := by apply Array.ext'; exact htys
  subst this; exact (Di (ty := ty) H hy hz hv).value
 ·simp only [run_pure] at he; obtain ⟨rfl, rfl⟩ := he; simp only [SV.aD, SV.Rel] at ha; obtain ⟨_, _, rfl, rfl, _, _, rfl, rfl, rfl⟩ := ha; exact aF.value (aF.same H Rj (by simp only [SV.Rel, bn]; rfl))
 ·simp only [run_pure] at he; obtain ⟨rfl, rfl⟩ := he; simp only [SV.aD, SV.Rel] at ha; obtain ⟨_, _, rfl, rfl, _, _, rfl, rfl, rfl⟩ := ha; exact aF.value (aF.same H P0 (by simp only [SV.Rel, bn]; rfl))
 ·exact he.elim
theorem I4 {op : BinOp} {t : TypeId} {x y : Operand} {a b : SV} {v u : Value} {r : Unit} (ha : a.Rel env ρ v) (hb : b.Rel env ρ u) (he : (Fu P op t x y a b).bx env h r h') :
    h = h' /\ (eqGuard op t x y v u).run P w = .ok () w := by
 have plain : (op ≠ .eql /\ op ≠ .neq) -> (eqGuard op t x y v u).run P w = .ok () w := by
  intro hop
  cases op <;> first
   | rfl
   | exact absurd rfl hop.1
   | exact absurd rfl hop.2
 have nils : (IX x || IX y) = true -> v = .nilIface -> u = .nilIface -> (eqGuard op t x y v u).run P w = .ok () w := by
  intro hc hv hu; subst hv; subst hu
  cases op <;> first
   | rfl
   | (cases x <;> cases y <;> first | rfl | (cases hc; done))
 have other : (v = .nilIface -> u = .nilIface -> False) -> (∀ l m, v = .agg l -> u = .agg m -> P.eqGuardType P.depth t = false) -> (eqGuard op t x y v u).run P w = .ok () w := by
  intro c1 c2; unfold eqGuard
  cases v <;> cases u <;> first
   | exact (c1 rfl rfl).elim
   | exact run_eqGuard_agg w op t x y _ _ (c2 _ _ rfl rfl)
   | (cases op <;> rfl)
 have nn : ∀ {q : SV} {z : Value}, q.Rel env ρ z -> q.shut = true -> q.iT = false -> z ≠ .nilIface := by
  intro q z hq hs hn e; subst e; cases q <;> simp only [SV.shut, SV.iT] at hs hn <;> simp [SV.Rel, DK.Rel, oR] at hq <;> (try (cases hs; done)) <;> (try (cases hn; done))
 have na : ∀ {q : SV} {z : Value}, q.Rel env ρ z -> q.shut = true -> q.kp = false -> ∀ l, z ≠ .agg l := by
  intro q z hq hs hn l e; subst e; cases q <;> simp only [SV.shut, SV.kp] at hs hn <;> simp [SV.Rel, DK.Rel, oR] at hq <;> (try (cases hs; done)) <;> (try (cases hn; done))
 have main : ((a.shut && b.shut) = true) -> ((!(a.kp && b.kp) || !(P.eqGuardType P.depth t)) = true) -> ((IX x || IX y || !(a.iT && b.iT)) = true) -> (eqGuard op t x y v u).run P w = .ok () w := by
  intro h1 h2 h3; simp only [Bool.and_eq_true] at h1; cases h4 : (a.iT && b.iT) with
  | true =>
    rw [h4] at h3; simp only [Bool.and_eq_true] at h4; have e1 : v = .nilIface := by cases a <;> simp only [SV.iT] at h4 <;> first | exact ha | (cases h4.1)
    have e2 : u = .nilIface := by cases b <;> simp only [SV.iT] at h4 <;> first | exact hb | (cases h4.2)
    exact nils (by simpa using h3) e1 e2
  | false =>
    refine other (fun e1 e2 => ?_) (fun l m e1 e2 => ?_)
    ·rcases Bool.and_eq_false_iff.1 h4 with h | h
     ·exact nn ha h1.1 h e1
     ·exact nn hb h1.2 h e2
    ·rw [Bool.or_eq_true] at h2; rcases h2 with h2 | h2
     ·have h2' : (a.kp && b.kp) = false := by rw [<- Bool.not_eq_true']; exact h2
      rcases Bool.and_eq_false_iff.1 h2' with h | h
      ·exact (na ha h1.1 h _ e1).elim
      ·exact (na hb h1.2 h _ e2).elim
     ·simpa using h2
 unfold Fu at he; split at he
 ·simp only [run_bind, aq] at he; obtain ⟨_, _, ⟨h1, rfl⟩, _, _, ⟨h2, rfl⟩, h3, rfl⟩ := he; exact ⟨rfl, main h1 h2 h3⟩
 ·simp only [run_bind, aq] at he; obtain ⟨_, _, ⟨h1, rfl⟩, _, _, ⟨h2, rfl⟩, h3, rfl⟩ := he; exact ⟨rfl, main h1 h2 h3⟩
 ·rename_i h1 h2; rw [aT] at he; exact ⟨he.2, plain ⟨h1, h2⟩⟩
theorem MJ (hP : Plain P) (H : az env w0 ρ h w) {ev : Operand -> Option SV} {g : Operand -> Value} (hev : ∀ x s, ev x = some s -> s.Rel env ρ (g x)) {c : Call} {ty : TypeId} {out : ph}
    (he : (GU P nm ev c).bx env h out h') : lZ P env w0 ρ nm h' w (do let d <- resolve g c ty; invoke d.target d.args) out := by
 simp only [GU, run_bind] at he; obtain ⟨args, _, ha0, he⟩ := he; obtain ⟨rfl, ha⟩ := xQ hev ha0; have hargs : c.args.map g = (c.args.toList.map g).toArray := by apply Array.ext'; simp
 split at he
 ·rename_i b hc; obtain ⟨n, w', ρ', h1, h2⟩ := Cg (ty := ty) (cs := c.args.map fun | .const _ => true | _ => false) H ha he; refine ⟨n, w', ρ', ?_, h2⟩; simp only [resolve, hc, Sem.run_bind, Sem.run_pure, Result.andThen_ok, invoke, hargs]; exact h1
 ·rename_i r name hc; simp only [run_bind, c8, ae] at he; obtain ⟨x, _, ⟨hx, rfl⟩, he⟩ := he; obtain ⟨n, w', ρ', h1, h2⟩ := Lh hP H (hev r x hx) ha he; refine ⟨n, w', ρ', ?_, h2⟩; simp only [resolve, hc, Sem.run_bind, Sem.run_pure, Result.andThen_ok, invoke, hargs]; have e1 : (#[g r] ++ (c.args.toList.map g).toArray)[0]? = some (g r) := by simp
  have e2 : (#[g r] ++ (c.args.toList.map g).toArray).extract 1 (#[g r] ++ (c.args.toList.map g).toArray).size = (c.args.toList.map g).toArray := by
   apply Array.ext'; simp only [Array.toList_extract, Array.toList_append, List.extract_eq_take_drop, Array.size_append, List.size_toArray, List.length_map, Array.length_toList]; simp only [List.singleton_append, List.drop_succ_cons, List.drop_zero]; apply List.take_of_length_le; simp
  rw [e1, e2]; exact h1
 ·rename_i f hc; simp only [run_bind, c8, ae] at he; obtain ⟨x, _, ⟨hx, rfl⟩, he⟩ := he; split at he
  ·rename_i q first cap
   have hr := hev f _ hx; simp only [SV.Rel] at hr; obtain ⟨vf, vc, hg, hvf, hvc⟩ := hr; obtain ⟨n, w', ρ', h1, h2⟩ := CM hP H ((hvf.append ha).append hvc) he; refine ⟨n, w', ρ', ?_, h2⟩; have e : vf.toArray ++ (c.args.toList.map g).toArray ++ vc.toArray = (vf ++ c.args.toList.map g ++ vc).toArray := by apply Array.ext'; simp
   simp only [resolve, hc, hg, Deferred.ofValue, Sem.run_bind, Sem.run_pure, Result.andThen_ok, invoke, hargs, e]; exact h1
  ·exact he.elim
theorem Kl (H : az env w0 ρ h w) {ev : Operand -> Option SV} {g : Operand -> Value} (hev : ∀ x s, ev x = some s -> s.Rel env ρ (g x)) {c : Call} {ty : TypeId} {out : ph}
    (he : (Bk ev c).bx env h out h') : lZ P env w0 ρ nm h' w (do pure (.defer (<- resolve g c ty))) out := by
 simp only [Bk, run_bind] at he; obtain ⟨args, _, ha0, he⟩ := he; obtain ⟨rfl, ha⟩ := xQ hev ha0; have hargs : c.args.map g = (c.args.toList.map g).toArray := by apply Array.ext'; simp
 split at he
 ·rename_i f hc; simp only [run_bind, c8, ae] at he; obtain ⟨x, _, ⟨hx, rfl⟩, he⟩ := he; split at he
  ·rename_i q first cap
   simp only [run_pure] at he; obtain ⟨rfl, rfl⟩ := he; have hr := hev f _ hx; simp only [SV.Rel] at hr; obtain ⟨vf, vc, hg, hvf, hvc⟩ := hr; have e : vf.toArray ++ (c.args.toList.map g).toArray = (vf ++ c.args.toList.map g).toArray := by apply Array.ext'; simp
   refine ⟨.defer { target := .fn (.func q) vc.toArray, args := (vf ++ c.args.toList.map g).toArray }, w, ρ, ?_, af.le_refl ρ, fun n hn => .inl hn, H, vc, _, rfl, hvc, hvf.append ha⟩; simp only [resolve, hc, hg, Deferred.ofValue, Sem.run_bind, Sem.run_pure, Result.andThen_ok, hargs, e]
  ·exact he.elim
 ·exact he.elim
theorem MF (hP : Plain P) (H : az env w0 ρ h w) {sl : List SV} {a : Act} (hs : SV.aD env ρ sl a.tmps.toList) {o : Oper} {out : ph}
    (he : (lb P nm (ff sl) o.op).bx env h out h') : lZ P env w0 ρ nm h' w (execOp a.eval o) out := by
 have hev : ∀ x s, ff sl x = some s -> s.Rel env ρ (a.eval x) := fun x s hx => wj hs hx
 have mv : ∀ {x : Operand}, (gf (c8 (ff sl) x)).bx env h out h' -> lZ P env w0 ρ nm h' w (pure (.value (a.eval x))) out := by
  intro x hh; simp only [bC, c8, ae] at hh; obtain ⟨s, rfl, h1, rfl⟩ := hh; exact ⟨_, w, ρ, rfl, af.le_refl ρ, fun n hn => .inl hn, H, _, rfl, hev _ _ h1⟩
 obtain ⟨dst, op, type, pos, after, guard⟩ := o; cases op <;> simp only [lb] at he <;> (try (exact he.elim)) <;> simp only [execOp]
 case move x => exact mv he
 case assign x => exact mv he
 case pick c x y =>
  simp only [run_bind, c8, ae] at he; obtain ⟨s, _, ⟨h1, rfl⟩, he⟩ := he; split at he
  ·rename_i e; simp only [run_bind, gX] at he; obtain ⟨b, _, ⟨hb, rfl⟩, he⟩ := he; have hr := hev _ _ h1; simp only [SV.Rel] at hr; rw [hr]; obtain ⟨n, w', ρ', g1, g2⟩ := mv he; refine ⟨n, w', ρ', ?_, g2⟩; rw [<- g1]; simp only [asBool, Sem.run_bind, Sem.run_pure, Result.andThen_ok, hb]; cases b <;> rfl
  ·exact he.elim
 case alloc t =>
  obtain ⟨x, rfl, he'⟩ := bC.1 he; clear he; have he := he'; clear he'; exact (JU H he).value
 case box t x =>
  obtain ⟨r, rfl, he'⟩ := bC.1 he; clear he; have he := he'; clear he'; simp only [run_bind, c8, ae] at he; obtain ⟨s, _, ⟨h1, rfl⟩, he⟩ := he; exact (G3 H (hev _ _ h1) he).value
 case build t parts =>
  obtain ⟨r, rfl, he'⟩ := bC.1 he; clear he; have he := he'; clear he'; simp only [run_bind] at he; obtain ⟨l, _, h1, he⟩ := he; obtain ⟨rfl, h2⟩ := En hev h1; exact (Ke H (by simpa using h2) he).value
 case buildSlice t n parts =>
  obtain ⟨r, rfl, he'⟩ := bC.1 he; clear he; have he := he'; clear he'; simp only [run_bind] at he; obtain ⟨l, _, h1, he⟩ := he; obtain ⟨rfl, h2⟩ := En hev h1; exact (xR H (by simpa using h2) he).value
 case load t x =>
  obtain ⟨r, rfl, he'⟩ := bC.1 he; clear he; have he := he'; clear he'; simp only [run_bind, c8, ae] at he; obtain ⟨s, _, ⟨h1, rfl⟩, he⟩ := he; exact (Jx H (hev _ _ h1) he).value
 case store t x y =>
  simp only [run_bind, c8, ae, run_pure] at he; obtain ⟨s, _, ⟨h1, rfl⟩, v, _, ⟨h2, rfl⟩, _, _, he, rfl, rfl⟩ := he; obtain ⟨w', ρ', g1, l1, p1, g2⟩ := F8 H (hev _ _ h1) (hev _ _ h2) he; exact ⟨.skip, w', ρ', by simp only [Sem.run_bind, g1, Result.andThen_ok, Sem.run_pure], l1, fun n hn => .inl (by rw [show ρ' n = ρ n from congrFun p1 n]; exact hn), g2, rfl⟩
 case nilCheck x =>
  obtain ⟨r, rfl, he'⟩ := bC.1 he; clear he; have he := he'; clear he'; simp only [run_bind, c8, ae] at he; obtain ⟨s, _, ⟨h1, rfl⟩, he⟩ := he; have hr := hev _ _ h1
  have fin : (∀ v, v = a.eval x -> (v ≠ .pointer none /\ v ≠ .nilIface /\ v ≠ .nilFunc /\ ∀ n f c, v ≠ .func (.method n) f c)) -> r.Rel env ρ (a.eval x) ->
      lZ P env w0 ρ nm h w (match a.eval x with
       | .pointer none | .nilIface | .nilFunc => runtimePanic .nilDeref
       | .func (.method name) first captured =>
         match (first[0]? : Option Value) with
         | some .nilIface => runtimePanic .nilDeref
         | some (.iface t w) => do
           if (<- nilAhead ((<- program).types.size + Made.depth) t w name) != some false then
            unsupported (.noEntry "op/nilCheck.the method's receiver behind this interface value is a nil pointer, or cannot be seen to be none, and the arguments act or may panic (ledger 612)")
           pure (.value (.func (.method name) first captured))
         | _ => pure (.value (.func (.method name) first captured))
       | x => pure (.value x)) (.val r) := by
   intro hc hr; obtain ⟨c1, c2, c3, c4⟩ := hc _ rfl; generalize a.eval x = v at *; refine ⟨.value v, w, ρ, ?_, af.le_refl ρ, fun n hn => .inl hn, H, v, rfl, hr⟩
   split <;> first
    | exact absurd rfl c1
    | exact absurd rfl c2
    | exact absurd rfl c3
    | exact absurd rfl (c4 _ _ _)
    | rfl
  split at he
  ·simp only [run_pure] at he; obtain ⟨rfl, rfl⟩ := he; refine fin (fun v hv => ?_) hr; subst hv; simp only [SV.Rel] at hr; obtain ⟨p, _, hr⟩ := hr; rw [hr]; exact ⟨by simp, by simp, by simp, by simp⟩
  ·simp only [run_pure] at he; obtain ⟨rfl, rfl⟩ := he; refine fin (fun v hv => ?_) hr; subst hv; simp only [SV.Rel] at hr; obtain ⟨b, o, hr, _⟩ := hr; rw [hr]; exact ⟨by simp, by simp, by simp, by simp⟩
  ·simp only [run_bind, bU, run_pure] at he; obtain ⟨_, _, ⟨h0, rfl⟩, rfl, rfl⟩ := he; rw [cq] at h0; have h0 : (0 : Int) <= _ := h0; refine fin (fun v hv => ?_) hr; subst hv; simp only [SV.Rel] at hr; rcases hr with ⟨h1, _⟩ | ⟨_, b, _, hr⟩
   ·omega
   ·rw [hr]; exact ⟨by simp, by simp, by simp, by simp⟩
  ·simp only [run_pure] at he; obtain ⟨rfl, rfl⟩ := he; refine fin (fun v hv => ?_) hr; subst hv; simp only [SV.Rel] at hr; obtain ⟨p, hr⟩ := hr; rw [hr]; exact ⟨by simp, by simp, by simp, by simp⟩
  ·simp only [run_pure] at he; obtain ⟨rfl, rfl⟩ := he; refine fin (fun v hv => ?_) hr; subst hv; simp only [SV.Rel] at hr; obtain ⟨p, hr, _⟩ := hr; rw [hr]; exact ⟨by simp, by simp, by simp, by simp⟩
  ·simp only [run_pure] at he; obtain ⟨rfl, rfl⟩ := he; refine fin (fun v hv => ?_) hr; subst hv; simp only [SV.Rel] at hr; obtain ⟨p, q, hr, _⟩ := hr; rw [hr]; exact ⟨by simp, by simp, by simp, by simp⟩
  ·rename_i mname t xx c; simp only [run_bind, eR, ae, aq, run_pure] at he; obtain ⟨ti, _, ⟨hi, rfl⟩, m, _, ⟨hm, rfl⟩, _, _, ⟨hpath, rfl⟩, _, _, ⟨hby, rfl⟩, rfl, rfl⟩ := he; have hp : m.path = #[] := by simpa using hpath
   have hr' := hr; simp only [SV.Rel, SV.aD] at hr'; obtain ⟨xs, ys, hv, ⟨_, _, rfl, ⟨z, rfl, hz⟩, rfl⟩, hys⟩ := hr'; obtain ⟨k, hk⟩ : ∃ k, P.types.size + Made.depth = k + 1 := ⟨P.types.size + 99, rfl⟩
   have hna : (nilAhead (P.types.size + Made.depth) t z mname).run P w = .ok (some false) w := by
    rw [hk]; cases hf : m.func with
    | none => rw [hf] at hby; cases hby
    | some q =>
      obtain ⟨f, b⟩ := q; cases b with
      | false => rw [hf] at hby; cases hby
      | true => simp only [nilAhead, Sem.run_bind, qc hi, Result.andThen_ok, hm, hp, Array.toList_empty, followBlind, Sem.run_pure, hf]
   refine ⟨.value (a.eval x), w, ρ, ?_, af.le_refl ρ, fun n hn => .inl hn, H, _, rfl, hr⟩; rw [hv]; have e0 : ([Value.iface t z].toArray[0]? : Option Value) = some (.iface t z) := rfl; simp only [e0, Sem.run_bind, run_program, Result.andThen_ok, hna, Sem.run_pure]; rfl
  ·exact he.elim
 case binOp op t x y yt =>
  obtain ⟨r, rfl, he'⟩ := bC.1 he; clear he; have he := he'; clear he'; simp only [run_bind, c8, ae] at he; obtain ⟨s, _, ⟨h1, rfl⟩, v, _, ⟨h2, rfl⟩, _, _, h3, he⟩ := he; obtain ⟨rfl, h4⟩ := I4 (P := P) (w := w) (t := t) (hev _ _ h1) (hev _ _ h2) h3; refine aF.value ?_; obtain ⟨u, w', ρ', g1, g2⟩ := PT (nm := nm) H (hev _ _ h1) (hev _ _ h2) he; exact ⟨u, w', ρ', by simp only [Sem.run_bind, h4, Result.andThen_ok]; exact g1, g2⟩
 case unOp op t x =>
  obtain ⟨r, rfl, he'⟩ := bC.1 he; clear he; have he := he'; clear he'; simp only [run_bind, c8, ae] at he; obtain ⟨s, _, ⟨h1, rfl⟩, he⟩ := he; exact (Xx H (hev _ _ h1) he).value
 case convert s d x =>
  obtain ⟨r, rfl, he'⟩ := bC.1 he; clear he; have he := he'; clear he'; simp only [run_bind, c8, ae] at he; obtain ⟨s, _, ⟨h1, rfl⟩, he⟩ := he; exact (Me H (hev _ _ h1) he).value
 case makeInterface t x =>
  obtain ⟨r, rfl, he'⟩ := bC.1 he; clear he; have he := he'; clear he'; simp only [run_bind, c8, ae] at he; obtain ⟨s, _, ⟨h1, rfl⟩, he⟩ := he; exact (I9 H (hev _ _ h1) he).value
 case makeFunc fn first cap =>
  obtain ⟨r, rfl, he'⟩ := bC.1 he; clear he; have he := he'; clear he'; simp only [run_bind, run_pure] at he; obtain ⟨l1, _, h1, l2, _, h2, rfl, rfl⟩ := he; obtain ⟨rfl, h3⟩ := xQ hev h1; obtain ⟨rfl, h4⟩ := xQ hev h2; have e1 : first.map a.eval = (first.toList.map a.eval).toArray := by apply Array.ext'; simp
  have e2 : cap.map a.eval = (cap.toList.map a.eval).toArray := by apply Array.ext'; simp
  refine aF.value (aF.same H (v := .func fn (first.toList.map a.eval).toArray (cap.toList.map a.eval).toArray) ?_ ⟨_, _, rfl, h3, h4⟩)
  rw [e1, e2]; rfl
 case slice t x lo hi mx =>
  cases mx with
  | some mx =>
    cases hi with
    | none => exact he.elim
    | some hi =>
      obtain ⟨r, rfl, he'⟩ := bC.1 he; clear he; have he := he'; clear he'; simp only [run_bind, c8, ae] at he; obtain ⟨s, _, ⟨h1, rfl⟩, l, _, h2, hh, _, ⟨h3, rfl⟩, m, _, ⟨h6, rfl⟩, he⟩ := he; obtain ⟨rfl, h4⟩ := Be hev h2; exact (Gb H (hev _ _ h1) h4 (hev _ _ h3) (hev _ _ h6) he).value
  | none =>
    have he : (gf (do
     let v <- c8 (ff sl) x
     let l <- Km (ff sl) lo
     let h <- Km (ff sl) hi
     zW P t v l h)).bx env h out h' := by cases hi <;> exact he
    obtain ⟨r, rfl, he'⟩ := bC.1 he; clear he; have he := he'; clear he'; simp only [run_bind, c8, ae] at he; obtain ⟨s, _, ⟨h1, rfl⟩, l, _, h2, hh, _, h3, he⟩ := he; obtain ⟨rfl, h4⟩ := Be hev h2; obtain ⟨rfl, h5⟩ := Be hev h3; exact (JH H (hev _ _ h1) h4 h5 he).value
 case fieldAddr t x f =>
  obtain ⟨r, rfl, he'⟩ := bC.1 he; clear he; have he := he'; clear he'; simp only [run_bind, c8, ae] at he; obtain ⟨s, _, ⟨h1, rfl⟩, he⟩ := he; exact (Fq H (hev _ _ h1) he).value
 case field t x f =>
  obtain ⟨r, rfl, he'⟩ := bC.1 he; clear he; have he := he'; clear he'; simp only [run_bind, c8, ae] at he; obtain ⟨s, _, ⟨h1, rfl⟩, he⟩ := he; exact (Je H (hev _ _ h1) he).value
 case indexAddr t x i =>
  obtain ⟨r, rfl, he'⟩ := bC.1 he; clear he; have he := he'; clear he'; simp only [run_bind, c8, ae] at he; obtain ⟨s, _, ⟨h1, rfl⟩, v, _, ⟨h2, rfl⟩, he⟩ := he; exact (Js H (hev _ _ h1) (hev _ _ h2) he).value
 case index t x i =>
  obtain ⟨r, rfl, he'⟩ := bC.1 he; clear he; have he := he'; clear he'; simp only [run_bind, c8, ae] at he; obtain ⟨s, _, ⟨h1, rfl⟩, v, _, ⟨h2, rfl⟩, he⟩ := he; exact (J5 H (hev _ _ h1) (hev _ _ h2) he).value
 case makeChan t s =>
  obtain ⟨r, rfl, he'⟩ := bC.1 he; clear he; have he := he'; clear he'; simp only [run_bind, c8, ae] at he; obtain ⟨s, _, ⟨h1, rfl⟩, he⟩ := he; exact (Aa H (hev _ _ h1) he).value
 case makeMap t rr =>
  obtain ⟨r, rfl, he'⟩ := bC.1 he; clear he; have he := he'; clear he'; simp only [run_bind] at he; obtain ⟨l, _, h2, he⟩ := he; obtain ⟨rfl, h4⟩ := Be hev h2; exact (Da H h4 he).value
 case entry x =>
  obtain ⟨r, rfl, he'⟩ := bC.1 he; clear he; have he := he'; clear he'; simp only [run_bind, c8, ae] at he; obtain ⟨s, _, ⟨h1, rfl⟩, he⟩ := he; exact (Jh H (hev _ _ h1) he).value
 case range t x =>
  obtain ⟨r, rfl, he'⟩ := bC.1 he; clear he; have he := he'; clear he'; simp only [run_bind, c8, ae] at he; obtain ⟨s, _, ⟨h1, rfl⟩, he⟩ := he; exact (II H (hev _ _ h1) he).value
 case next x b =>
  cases b with
  | true => exact he.elim
  | false =>
    obtain ⟨r, rfl, he'⟩ := bC.1 he; clear he; have he := he'; clear he'; simp only [run_bind, c8, ae] at he; obtain ⟨s, _, ⟨h1, rfl⟩, he⟩ := he; exact (Lt H (hev _ _ h1) he).value
 case makeSlice t l c =>
  obtain ⟨r, rfl, he'⟩ := bC.1 he; clear he; have he := he'; clear he'; simp only [run_bind, c8, ae] at he; obtain ⟨x, _, ⟨h1, rfl⟩, y, _, ⟨h2, rfl⟩, he⟩ := he; exact (yq H (hev _ _ h1) (hev _ _ h2) he).value
 case lookup t x i ok =>
  obtain ⟨r, rfl, he'⟩ := bC.1 he; clear he; have he := he'; clear he'; simp only [run_bind, c8, ae] at he; obtain ⟨s, _, ⟨h1, rfl⟩, v, _, ⟨h2, rfl⟩, he⟩ := he; exact (Dd H (hev _ _ h1) (hev _ _ h2) he).value
 case mapUpdate t m k x =>
  simp only [run_bind, c8, ae, run_pure] at he; obtain ⟨s1, _, ⟨h1, rfl⟩, s2, _, ⟨h2, rfl⟩, s3, _, ⟨h3, rfl⟩, _, _, he, rfl, rfl⟩ := he; obtain ⟨w', ρ', g1, l1, p1, g2⟩ := tQ H (hev _ _ h1) (hev _ _ h2) (hev _ _ h3) he; exact ⟨.skip, w', ρ', by simp only [Sem.run_bind, g1, Result.andThen_ok, Sem.run_pure], l1, fun n hn => .inl (by rw [show ρ' n = ρ n from congrFun p1 n]; exact hn), g2, rfl⟩
 case insert t m k x =>
  simp only [run_bind, c8, ae, run_pure] at he; obtain ⟨s1, _, ⟨h1, rfl⟩, s2, _, ⟨h2, rfl⟩, s3, _, ⟨h3, rfl⟩, _, _, he, rfl, rfl⟩ := he; obtain ⟨w', ρ', g1, l1, p1, g2⟩ := tQ H (hev _ _ h1) (hev _ _ h2) (hev _ _ h3) he; exact ⟨.skip, w', ρ', by simp only [Sem.run_bind, g1, Result.andThen_ok, Sem.run_pure], l1, fun n hn => .inl (by rw [show ρ' n = ρ n from congrFun p1 n]; exact hn), g2, rfl⟩
 case typeAssert x xt t ok =>
  obtain ⟨r, rfl, he'⟩ := bC.1 he; clear he; have he := he'; clear he'; simp only [run_bind, c8, ae] at he; obtain ⟨s, _, ⟨h1, rfl⟩, he⟩ := he; exact (Fy H (hev _ _ h1) he).value
 case extract x i =>
  obtain ⟨r, rfl, he'⟩ := bC.1 he; clear he; have he := he'; clear he'; simp only [run_bind, c8, ae] at he; obtain ⟨s, _, ⟨h1, rfl⟩, he⟩ := he; split at he
  ·simp only [ae] at he; obtain ⟨h2, rfl⟩ := he; have hr := hev _ _ h1; simp only [SV.Rel] at hr; obtain ⟨vs, hr, hvs⟩ := hr; obtain ⟨u, h3, h4⟩ := hvs.get h2; rw [hr]; refine aF.value (aF.same H ?_ h4); simp [Instr.extract, h3]
  ·exact he.elim
 case call c => exact MJ hP H hev he
 case defer c => exact Kl H hev he
end
end Go.Sx
