/-
  SX, PART 24: from the end of a loop over a few objects to the state around it.
-/
import Derived.Test.YtckdphmpafopmaaSxLoopC
namespace Go.Sx
open Go.RowKit
set_option linter.unusedVariables false
set_option linter.unusedSimpArgs false

def setL : List (Nat × SV) → List SV → List SV
  | [], l => l
  | (j, y) :: r, l => (setL r l).set j y
theorem setL_length : ∀ {o : List (Nat × SV)} {l : List SV}, (setL o l).length = l.length
  | [], _ => rfl
  | (j, y) :: r, l => by simp [setL, setL_length (o := r)]
theorem setL_get : ∀ {o : List (Nat × SV)} {l : List SV} {j : Nat} {x : SV}, (setL o l)[j]? = some x → (∃ y, ovGet o j = some y ∧ x = y) ∨ (ovGet o j = none ∧ l[j]? = some x)
  | [], l, j, x, h => .inr ⟨rfl, h⟩
  | (i, y) :: r, l, j, x, h => by
    unfold setL at h
    rw [List.getElem?_set] at h
    unfold ovGet
    by_cases e : i = j
    · subst e
      rw [if_pos rfl] at h
      split at h
      · simp only [Option.some.injEq] at h
        exact .inl ⟨y, by simp, h.symm⟩
      · cases h
    · rw [if_neg e] at h
      have hb : Nat.beq i j = false := by rw [Bool.eq_false_iff]; intro he; exact e (Nat.eq_of_beq_eq_true he)
      rw [hb]
      exact setL_get h

def hputs : List (Nat × SObj) → Heap → Heap
  | [], h => h
  | (n, o) :: r, h => hputs r (hput h n o)
def putsP : List (Nat × SObj) → Prog Unit
  | [] => .ret ()
  | (n, o) :: r => do putN n o; putsP r
theorem run_puts {env : Env} : ∀ {l : List (Nat × SObj)} {h h' : Heap} {b : Unit}, (putsP l).Run env h b h' ↔ h' = hputs l h
  | [], h, h', b => by simp only [putsP, run_ret, hputs]; exact ⟨fun h => h.2.symm, fun h => ⟨trivial, h.symm⟩⟩
  | (n, o) :: r, h, h', b => by
    simp only [putsP, run_bind, run_putN, hputs]
    constructor
    · rintro ⟨_, h1, rfl, h2⟩; exact run_puts.1 h2
    · intro h2; exact ⟨(), _, rfl, run_puts.2 h2⟩
theorem hputs_get : ∀ {l : List (Nat × SObj)} {h : Heap} {n : Nat} {o : SObj}, hget (hputs l h) n = some o → (n ∈ l.map (·.1) ∧ ∃ m, (n, m) ∈ l ∧ o = m) ∨ (n ∉ l.map (·.1) ∧ hget h n = some o)
  | [], h, n, o, hn => .inr ⟨by simp, hn⟩
  | (k, x) :: r, h, n, o, hn => by
    unfold hputs at hn
    rcases hputs_get hn with ⟨h1, m, h2, h3⟩ | ⟨h1, h2⟩
    · exact .inl ⟨by simp only [List.map_cons, List.mem_cons]; exact .inr h1, m, List.mem_cons_of_mem _ h2, h3⟩
    · rw [hget_hput] at h2
      by_cases e : n = k
      · subst e
        rw [if_pos rfl] at h2
        injection h2 with h2
        exact .inl ⟨by simp, x, List.mem_cons_self .., h2.symm⟩
      · rw [if_neg e] at h2
        exact .inr ⟨by simp only [List.map_cons, List.mem_cons, not_or]; exact ⟨e, h1⟩, h2⟩

theorem sig_in {l : List (Nat × Nat)} {z n : Nat} : ∀ {x : Nat × Nat}, x ∈ l → x.1 = n → (n, sig l z n) ∈ l := by
  induction l with
  | nil => intro x hx; cases hx
  | cons y r ih =>
    intro x hx hn
    obtain ⟨a, b⟩ := y
    unfold sig
    cases hb : Nat.beq a n with
    | true => obtain rfl := Nat.eq_of_beq_eq_true hb; simp
    | false =>
      rcases List.mem_cons.1 hx with rfl | hx
      · simp only at hn; subst hn; simp at hb
      · exact List.mem_cons_of_mem _ (ih hx hn)

section
variable {env e : Env} {w0 : Anchor} {ρ ρE : PMap} {fr frE : Fr} {h : Heap} {hc : CHeap} {nx nxE nx' : Nat} {a a' : Act} {w w' : World}

/-- The end of the loop, seen from around it: 'upds' are the objects that it leaves, by their names there; 'outs' the slots; 'tl' tells which names they are in the loop. -/
theorem sat_out (hs : Sat env w0 ρ fr h nx a w) {S news : List Nat} {μ : Nat → Nat → Prop} (hA : AbsAll env w0 ρ h w μ) (hE : Sat e (anchorBut w ρ (ownedBy ρ h μ S)) ρE frE (cden hc) nxE a' w') {tl : List (Nat × Nat)} {upds : List (Nat × SObj)} {outs : List (Nat × SV)} {js : List Nat}
    (hkeys : ∀ n, n ∈ upds.map (·.1) ↔ n ∈ S ∨ n ∈ news) (hnew : ∀ n ∈ news, nx ≤ n ∧ n < nx') (hnx : nx ≤ nx')
    (hobj : ∀ n o, (n, o) ∈ upds → o = .gone ∨ (o.owner = true ∧ ∃ oE, cget hc (sig tl nxE n) = some oE ∧ oE.owner = true ∧ SObj.ent e env (sig tl nxE) oE o))
    (hrefs : ∀ n k st refs, (n, .abs k st refs) ∈ upds → ∀ m ∈ refs, m ∈ tl.map (·.1)) (hab : e.ab = env.ab) (hfz : ∀ b x, ρ.fz b = some x → ρE.fz b = some x)
    (hinj : allDiff (tl.map (·.2)) = true) (htl : ∀ x ∈ tl, x.1 ∈ news ∨ ρ x.1 = ρE x.2)
    (hout : entOv e env (sig tl nxE) frE.sl outs) (hdf : fr.df = []) (hdfE : frE.df = []) (hlen : frE.sl.length = fr.sl.length)
    (hkeep : ∀ j, j < fr.sl.length → j ∉ js → ovGet outs j = none → a'.tmps.toList[j]? = a.tmps.toList[j]?) :
    ρ.le (backMap ρ ρE (sig tl nxE) news) ∧ Sat env w0 (backMap ρ ρE (sig tl nxE) news) ⟨setL outs (tops js fr.sl), []⟩ (hputs upds h) nx' a' w' := by
  have hle := backMap_le (ρE := ρE) (τ := sig tl nxE) hs.nx (fun n hn => (hnew n hn).1) hfz
  have hzz : ρE nxE = none := by
    cases h : ρE nxE with
    | none => rfl
    | some p => have := hE.nx _ _ h; omega
  have nz : ∀ {n : Nat} {p : Pl}, ρE (sig tl nxE n) = some p → (n, sig tl nxE n) ∈ tl := fun hp => sig_mem fun h => by rw [h, hzz] at hp; cases hp
  have hback : ∀ n p, ρE (sig tl nxE n) = some p → backMap ρ ρE (sig tl nxE) news n = some p := by
    intro n p hp
    by_cases hn : n ∈ news
    · rw [backMap_new hn]; exact hp
    · rw [backMap_old hn]
      rcases htl _ (nz hp) with h1 | h1
      · exact absurd h1 hn
      · exact h1.trans hp
  have hle2 : PMap.le (ρE.re (sig tl nxE)) (backMap ρ ρE (sig tl nxE) news) := ⟨hback, fun _ _ h => h⟩
  have hin : ∀ {n : Nat} {o : SObj}, hget (hputs upds h) n = some o → (n ∈ S ∨ n ∈ news) → (n, o) ∈ upds := by
    intro n o hn hS
    rcases hputs_get hn with ⟨_, m, h2, rfl⟩ | ⟨h1, _⟩
    · exact h2
    · exact absurd ((hkeys n).2 hS) h1
  -- an object that is left
  have place : ∀ {n : Nat} {o : SObj}, (n, o) ∈ upds → o.owner = true → ∃ oE, hget (cden hc) (sig tl nxE n) = some oE ∧ oE.owner = true ∧ SObj.ent e env (sig tl nxE) oE o ∧ ∃ p, ρE (sig tl nxE n) = some p := by
    intro n o hm ho
    rcases hobj n o hm with rfl | ⟨_, oE, h1, h2, h3⟩
    · cases ho
    · obtain ⟨p, _, hp, _⟩ := (hE.hs.objs _ oE h1).place h2
      exact ⟨oE, h1, h2, h3, p, hp⟩
  refine ⟨hle, ⟨?_, ?_, ?_, ?_⟩⟩
  · refine HSat.out hs.hs hA hs.nx (fun n hn => (hnew n hn).1) hE.hs hab hfz (fun n o hn hS hN => ?_) (fun n o hn hS => ?_) (fun n o hn hS ho => ?_) (fun m n o o' hm hn hSm hSn ho ho' he => ?_) (fun n k st refs hn hS => ?_)
    · rcases hputs_get hn with ⟨h1, _⟩ | ⟨_, h2⟩
      · rcases (hkeys n).1 h1 with h | h
        · exact absurd h hS
        · exact absurd h hN
      · exact h2
    · have hm := hin hn hS
      cases ho : o.owner with
      | true =>
        obtain ⟨oE, h1, h2, h3, _⟩ := place hm ho
        have hr := SObj.ent_ok e env (sig tl nxE) (B := w0) (fun b hb => hs.hs.notK hA hb) h3 ho rfl (hE.hs.objs _ oE h1)
        refine hr.keep hle2 (fun _ _ _ => rfl) (fun _ h => by subst h; cases ho)
      | false =>
        rcases hobj n o hm with rfl | ⟨ho', _⟩
        · trivial
        · rw [ho] at ho'; cases ho'
    · obtain ⟨oE, h1, h2, h3, p, hp⟩ := place (hin hn hS) ho
      exact ⟨oE, h1, h2, by rw [hback n p hp, hp]⟩
    · obtain ⟨_, _, _, _, p, hp⟩ := place (hin hm hSm) ho
      obtain ⟨_, _, _, _, q, hq⟩ := place (hin hn hSn) ho'
      have m1 := nz hp
      have m2 := nz hq
      rw [he] at m1
      exact inj_of_allDiff hinj m1 m2
    · have hm := hin hn hS
      obtain ⟨oE, h1, h2, h3, _⟩ := place hm rfl
      cases oE <;> simp only [SObj.ent] at h3
      obtain ⟨rfl, h4, rfl, _⟩ := h3
      refine ⟨_, h1, h4, fun m hmr => ?_⟩
      by_cases hmn : m ∈ news
      · rw [backMap_new hmn]
      · rw [backMap_old hmn]
        obtain ⟨x, hx, hxm⟩ := List.mem_map.1 (hrefs n _ _ refs hm m hmr)
        have hx2 : (m, sig tl nxE m) ∈ tl := sig_in hx hxm
        rcases htl _ hx2 with h | h
        · exact absurd h hmn
        · exact h
  · have hal : a'.tmps.toList.length = fr.sl.length := by rw [hE.sl.length, hlen]
    refine rels_of_get (by rw [setL_length, tops_length, hal]) (fun j x v hx hv => ?_)
    rcases setL_get hx with ⟨y, hy, rfl⟩ | ⟨hno, hx⟩
    · obtain ⟨xE, hxE, hent⟩ := entOv_get e env (sig tl nxE) hout hy
      obtain ⟨v', hv', hr⟩ := hE.sl.get hxE
      rw [hv] at hv'; injection hv' with hv'; subst hv'
      exact (SV.ent_ok e env (sig tl nxE) hent hr).mono hle2
    · rcases tops_get hx with rfl | ⟨h1, h2⟩
      · trivial
      · have hjl : j < fr.sl.length := (List.getElem?_eq_some_iff.1 h2).1
        rw [hkeep j hjl h1 hno] at hv
        obtain ⟨v', hv', hr⟩ := hs.sl.get h2
        rw [hv] at hv'; injection hv' with hv'; subst hv'
        exact hr.mono hle
  · have := hE.df
    rw [hdfE] at this
    rw [this.nil_eq]
    exact .nil
  · intro n p hp
    by_cases hn : n ∈ news
    · exact (hnew n hn).2
    · rw [backMap_old hn] at hp
      have := hs.nx n p hp
      omega

def entHpF (e e' : Env) (σ : Nat → Nat) (h : Heap) (S : List Nat) : CHeap → Prop
  | [] => True
  | (n, o') :: r => (match hget h (σ n) with | some o => entO e e' σ o o' ∧ (o'.owner = true → σ n ∈ S) | none => False) ∧ entHpF e e' σ h S r
theorem entHpF_get {e e' : Env} {σ : Nat → Nat} {h : Heap} {S : List Nat} : ∀ {hp : CHeap} {n : Nat} {o' : SObj}, entHpF e e' σ h S hp → cget hp n = some o' → ∃ o, hget h (σ n) = some o ∧ entO e e' σ o o' ∧ (o'.owner = true → σ n ∈ S)
  | [], n, o', _, h => by cases h
  | (k, z) :: r, n, o', he, hg => by
    unfold entHpF at he
    unfold cget at hg
    cases hb : Nat.beq k n with
    | true =>
      rw [hb] at hg
      obtain rfl := Nat.eq_of_beq_eq_true hb
      simp only [cond_true, Option.some.injEq] at hg
      subst hg
      cases hn : hget h (σ k) with
      | none => rw [hn] at he; exact he.1.elim
      | some x => rw [hn] at he; exact ⟨x, rfl, he.1.1, he.1.2⟩
    | false => rw [hb] at hg; exact entHpF_get he.2 hg

theorem headObj_get {n : Nat} {o : SObj} : ∀ {c : CHeap}, cget c n = some o → c.all (fun x => headObj x.2) = true → headObj o = true
  | [], h, _ => by cases h
  | (k, z) :: r, h, ha => by
    simp only [List.all_cons, Bool.and_eq_true] at ha
    unfold cget at h
    cases hb : Nat.beq k n with
    | true => rw [hb] at h; simp only [cond_true, Option.some.injEq] at h; subst h; exact ha.1
    | false => rw [hb] at h; exact headObj_get h ha.2

/-- Into the loop: a few objects and slots, by names of their own. -/
theorem sat_in (hs : Sat env w0 ρ fr h nx a w) {μ : Nat → Nat → Prop} (hA : AbsAll env w0 ρ h w μ) {S : List Nat} {H : Head} {N : Nat} {l : List (Nat × Nat)} (hov : entOv env e (sig l nx) fr.sl H.ov) (hhp : entHpF env e (sig l nx) h S H.h)
    (hobj : H.h.all (fun x => headObj x.2) = true) (hinj : allDiff (l.map (·.2)) = true) (hlt : ∀ x ∈ l, x.1 < H.m) (hdf : fr.df = []) (hN : fr.sl.length = N) :
    Sat e (anchorBut w ρ (ownedBy ρ h μ S)) (ρ.re (sig l nx)) ⟨mkSl H.ov (fun j => (a.tmps.toList[j]?).getD undef) 0 N, []⟩ (cden H.h) H.m a w := by
  have hzz : ρ nx = none := by
    cases h : ρ nx with
    | none => rfl
    | some p => have := hs.nx _ _ h; omega
  have hal : a.tmps.toList.length = N := by rw [hs.sl.length, hN]
  have own : ∀ {o1 o : SObj}, entO env e (sig l nx) o1 o → o.owner = true → o1.owner = true ∧ SObj.ent env e (sig l nx) o1 o := by
    intro o1 o h ho
    unfold entO at h
    split at h
    · cases ho
    · exact h
  have nz : ∀ {n : Nat} {p : Pl}, ρ (sig l nx n) = some p → sig l nx n ≠ nx := fun hp h => by rw [h, hzz] at hp; cases hp
  have habs : ∃ ν, AbsAll e (anchorBut w ρ (ownedBy ρ h μ S)) (ρ.re (sig l nx)) (cden H.h) w ν := by
    have back : ∀ n k st refs, hget (cden H.h) n = some (.abs k st refs) → ∃ st0, hget h (sig l nx n) = some (.abs k st0 (refs.map (sig l nx))) ∧ (st0.den env).I = (st.den e).I ∧ e.ab = env.ab ∧ sig l nx n ∈ S := by
      intro n k st refs hn
      obtain ⟨o2, hg, hent, hS⟩ := entHpF_get hhp hn
      have h2 := (own hent rfl).2
      cases o2 <;> simp only [SObj.ent] at h2
      obtain ⟨rfl, h3, rfl, h4⟩ := h2
      exact ⟨_, hg, h3, h4, hS rfl⟩
    by_cases hany : ∃ n k st refs, hget (cden H.h) n = some (.abs k st refs)
    · obtain ⟨n0, k0, st0, refs0, hn0⟩ := hany
      obtain ⟨_, _, _, hab, _⟩ := back n0 k0 st0 refs0 hn0
      refine ⟨_, hA.turn (sig l nx) (fun n k st refs hn => ?_) hab (fun _ _ _ _ _ _ _ _ _ => rfl) (fun n k st refs c hn hc => ?_) (fun n k st refs c m o q hn hc hm ho hq => ?_) (fun n k st refs m k' st' refs' hn hm hσ => ?_) (fun n k st refs c hn hc => hA.fz _ k st refs c hn hc)⟩
      · obtain ⟨st0, g1, g2, _⟩ := back n k st refs hn
        exact ⟨st0, g1, g2, rfl, fun _ _ => rfl⟩
      · obtain ⟨st0, g1, g2, _, hS⟩ := back n k st refs hn
        obtain ⟨p1, _, hp1, _⟩ := (hs.hs.objs _ _ g1).place rfl
        exact ⟨(hA.own _ _ _ _ c g1 hc).1, fun hK => hK.2 ⟨_, _, p1, hS, g1, rfl, hp1, .inr ⟨rfl, hc⟩⟩⟩
      · obtain ⟨st0, g1, g2, _⟩ := back n k st refs hn
        obtain ⟨o1, hg1, ent1, _⟩ := entHpF_get hhp hm
        exact hA.apart _ _ _ _ c _ o1 q g1 hc hg1 (own ent1 ho).1 hq
      · obtain ⟨_, g1, _⟩ := back n k st refs hn
        obtain ⟨_, g2, _⟩ := back m k' st' refs' hm
        obtain ⟨p1, _, hp1, _⟩ := (hs.hs.objs _ _ g1).place rfl
        obtain ⟨p2, _, hp2, _⟩ := (hs.hs.objs _ _ g2).place rfl
        have m1 := sig_mem (nz hp1)
        have m2 := sig_mem (nz hp2)
        rw [hσ] at m1
        exact inj_of_allDiff hinj m1 m2
    · exact AbsAll.none fun n o hn => by
        cases o with
        | abs k st refs => exact absurd ⟨n, k, st, refs, hn⟩ hany
        | _ => rfl
  have hfz : FzOk (anchorBut w ρ (ownedBy ρ h μ S)) (ρ.re (sig l nx)) (cden H.h) w := ⟨hs.hs.fz.at_, fun b x n o p hb hn ho hp => by
    obtain ⟨o1, hg1, ent1, _⟩ := entHpF_get hhp hn
    exact hs.hs.fz.free b x _ o1 p hb hg1 (own ent1 ho).1 hp, fun b x hb _ => ⟨x, hb⟩⟩
  refine ⟨⟨Kept.refl _, fun n o hn => ?_, fun m n o o' p q hm hn ho ho' hp hq he => ?_, habs, hfz⟩, ?_, ?_, fun n p hp => ?_⟩
  · obtain ⟨o2, hg, hent, hS⟩ := entHpF_get hhp hn
    have hho := headObj_get hn hobj
    have hr2 := hs.hs.objs _ o2 hg
    have main : o.owner = true → o.Rel e (anchorBut w ρ (ownedBy ρ h μ S)) (ρ.re (sig l nx)) n w := fun ho => by
      obtain ⟨ho2, h2⟩ := own hent ho
      exact SObj.ent_ok' env e (sig l nx) (A := w0) (n := sig l nx n) (fun p hp _ hK => hK.2 ⟨sig l nx n, o2, p, hS ho, hg, ho2, hp, .inl rfl⟩) h2 ho rfl hr2
    cases o with
    | cells _ _ => exact main rfl
    | row _ _ _ _ _ => exact main rfl
    | map _ _ _ _ _ => exact main rfl
    | abs _ _ _ => exact main rfl
    | chan _ => exact main rfl
    | gone => trivial
    | inp sz' len' cols' =>
      cases o2 with
      | inp sz len cols =>
        simp only [entO] at hent
        obtain ⟨rfl, hl, rfl, hcols⟩ := hent
        obtain ⟨p, h1, h2, h3, h4, h5⟩ := hr2
        have hKA : ∀ b, w0.K b → (anchorBut w ρ (ownedBy ρ h μ S)).K b := fun b hb => Classical.byContradiction fun hc => hs.hs.notK hA hc hb
        refine ⟨p, h1, by rw [← hl]; exact h2, h3, fun hc => hKA _ (h4 hc), fun i hi j col hj => ?_⟩
        rw [← hl] at hi
        obtain ⟨v, hv, hrv⟩ := h5 i hi j col hj
        refine ⟨v, ?_, ?_⟩
        · show w.cell? _ = some v
          rw [hs.hs.below.cell (p := ⟨p.block, _, none⟩) (h4 (by omega))]
          exact hv
        · exact SV.ent_ok env e (sig l nx) (hcols col (List.mem_of_getElem? hj) i) hrv
      | _ => simp only [entO, SObj.ent] at hent; exact hent.2.elim
    | _ => cases hho
  · obtain ⟨o1, g1, ent1, _⟩ := entHpF_get hhp hm
    obtain ⟨o2, g2, ent2, _⟩ := entHpF_get hhp hn
    have hσ := hs.hs.inj _ _ o1 o2 p q g1 g2 (own ent1 ho).1 (own ent2 ho').1 hp hq he
    have m1 := sig_mem (nz hp)
    have m2 := sig_mem (nz hq)
    rw [hσ] at m1
    exact inj_of_allDiff hinj m1 m2
  · refine mkSl_rels (vs := a.tmps.toList) (fun j v hv => ?_) a.tmps.toList 0 N (fun k => by rw [Nat.zero_add]) hal
    cases ho : ovGet H.ov j with
    | none => show (a.tmps.toList[j]?).getD undef = v; rw [hv]; rfl
    | some y =>
      obtain ⟨x, hx, hent⟩ := entOv_get env e (sig l nx) hov ho
      obtain ⟨v', hv', hr⟩ := hs.sl.get hx
      rw [hv] at hv'; injection hv' with hv'; subst hv'
      exact SV.ent_ok env e (sig l nx) hent hr
  · have := hs.df; rw [hdf] at this; rw [this.nil_eq]; exact .nil
  · have hnz : sig l nx n ≠ nx := fun h => by
      have hp' : ρ (sig l nx n) = some p := hp
      rw [h, hzz] at hp'; cases hp'
    exact hlt _ (sig_mem hnz)
end
end Go.Sx
