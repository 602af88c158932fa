/-
  SX, PART 28: a computed loop as a contract: into it and out of it.
-/
import Derived.Test.YtckdphmpafopmaaSxLoopF
namespace Go.Sx
open Go.RowKit
set_option linter.unusedVariables false
set_option linter.unusedSimpArgs false

section
variable {vB : Nat} {env e : Env} {w0 : Anchor} {ρ ρE : PMap} {fr : Fr} {h : Heap} {nx nx' : Nat} {a a' : Act} {w w' : World} {μ : Nat → Nat → Prop}

theorem sat_in_full (hs : Sat env w0 ρ fr h nx a w) (hA : AbsAll env w0 ρ h w μ) {S : List Nat} {H : Head} {N : Nat} {js : List Nat} {l : List (Nat × Nat)} (hov : entOv env e (sig l nx) fr.sl H.ov) (hhp : entHpF env e (sig l nx) h S H.h)
    (hobj : H.h.all (fun x => headObj x.2) = true) (hinj : allDiff (l.map (·.2)) = true) (hlt : ∀ x ∈ l, x.1 < H.m) (hdf : fr.df = []) (hN : fr.sl.length = N)
    (hv : ∀ j, j < N → e.val (vB + j) 0 = (a.tmps.toList[j]?).getD undef) :
    Sat e (anchorBut w ρ (ownedBy ρ h μ S)) (ρ.re (sig l nx)) ⟨mkSl (fullH vB N js H).ov (fun j => (a.tmps.toList[j]?).getD undef) 0 N, []⟩ (cden H.h) H.m a w := by
  have hs1 := sat_in hs hA hov hhp hobj hinj hlt hdf hN
  have hal : a.tmps.toList.length = N := by rw [hs.sl.length, hN]
  exact ⟨hs1.hs, rels_full hs1.sl (fun j hj => by rw [List.getElem?_eq_getElem (by omega)]; rfl) hv (fun _ _ => rfl), hs1.df, hs1.nx⟩

theorem ovGet_tops_none : ∀ {js : List Nat} {j : Nat}, j ∉ js → ovGet (topsL js) j = none
  | [], _, _ => rfl
  | i :: r, j, h => by
    simp only [List.mem_cons, not_or] at h
    simp only [topsL, List.map_cons, ovGet]
    have : Nat.beq i j = false := by rw [Bool.eq_false_iff]; intro he; exact h.1 (Nat.eq_of_beq_eq_true he).symm
    rw [this]
    exact ovGet_tops_none (js := r) h.2

theorem sat_out_full (hs : Sat env w0 ρ fr h nx a w) (hA : AbsAll env w0 ρ h w μ) {S news : List Nat} {Hx : Head} {N : Nat} {js : List Nat} (hE : Sat e (anchorBut w ρ (ownedBy ρ h μ S)) ρE ⟨mkSl (fullH vB N js Hx).ov (fun _ => .nilIface) 0 N, []⟩ (cden Hx.h) Hx.m a' w')
    {tl : List (Nat × Nat)} {upds : List (Nat × SObj)} {outs : List (Nat × SV)}
    (hkeys : ∀ n, n ∈ upds.map (·.1) ↔ n ∈ S ∨ n ∈ news) (hnew : ∀ n ∈ news, nx ≤ n ∧ n < nx') (hnx : nx ≤ nx')
    (hobj : ∀ n o, (n, o) ∈ upds → o = .gone ∨ (o.owner = true ∧ ∃ oE, cget Hx.h (sig tl Hx.m n) = some oE ∧ oE.owner = true ∧ SObj.ent e env (sig tl Hx.m) oE o))
    (hrefs : ∀ n k st refs, (n, .abs k st refs) ∈ upds → ∀ m ∈ refs, m ∈ tl.map (·.1)) (hab : e.ab = env.ab) (hfz : ∀ b x, ρ.fz b = some x → ρE.fz b = some x)
    (hinj : allDiff (tl.map (·.2)) = true) (htl : ∀ x ∈ tl, x.1 ∈ news ∨ ρ x.1 = ρE x.2)
    (hout : entOv e env (sig tl Hx.m) (mkSl (fullH vB N js Hx).ov (fun _ => .nilIface) 0 N) outs) (hdf : fr.df = []) (hN : fr.sl.length = N)
    (hv : ∀ j, j < N → e.val (vB + j) 0 = (a.tmps.toList[j]?).getD undef) (hjo : ∀ j, j < N → ovGet outs j = none → ovGet Hx.ov j = none) :
    ρ.le (backMap ρ ρE (sig tl Hx.m) news) ∧ Sat env w0 (backMap ρ ρE (sig tl Hx.m) news) ⟨setL outs (tops js fr.sl), []⟩ (hputs upds h) nx' a' w' := by
  have hal : a.tmps.toList.length = N := by rw [hs.sl.length, hN]
  refine sat_out hs hA hE hkeys hnew hnx hobj hrefs hab hfz hinj htl hout hdf rfl (by rw [mkSl_length, hN]) (fun j hj hjj hno => ?_)
  rw [hN] at hj
  have h2 := hjo j hj hno
  obtain ⟨v, hv', hr⟩ := sl_of_mk hE.sl hj
  have hx : ovGet (fullH vB N js Hx).ov j = some (.val (vB + j) (.il 0)) := by
    obtain ⟨x, hx⟩ := ovGet_full (vB := vB) (js := js) (ov := Hx.ov) hj
    have hx2 := hx
    unfold fullOv at hx2
    rw [ovGet_append, h2] at hx2
    simp only at hx2
    rw [ovGet_append, ovGet_tops_none hjj] at hx2
    simp only at hx2
    rw [ovGet_stays hx2] at hx
    exact hx
  rw [hx] at hr
  have : v = e.val (vB + j) 0 := hr
  rw [hv', this, hv j hj, List.getElem?_eq_getElem (by omega)]
  rfl
end

def placed : SObj → Bool
  | .cells .. => true
  | .row .. => true
  | .inp .. => true
  | .map .. => true
  | .abs .. => true
  | .chan .. => true
  | _ => false
theorem placed_some {env : Env} {w0 : Anchor} {ρ : PMap} {n : Nat} {o : SObj} {w : World} (h : o.Rel env w0 ρ n w) (hp : placed o = true) : ∃ p, ρ n = some p := by
  cases o with
  | inp sz len cols => obtain ⟨p, h1, _⟩ := h; exact ⟨p, h1⟩
  | resv => cases hp
  | gone => cases hp
  | _ => obtain ⟨p, _, h1, _⟩ := h.place rfl; exact ⟨p, h1⟩

/-! ### renamed -/
def Col.ren (pr : Nat → E) : Col → Col
  | .tc k e j => .tc k (e.prime pr) j
  | c => c
def SObj.ren (τ : Nat → Nat) (pr : Nat → E) : SObj → SObj
  | .cells T cs => .cells T (SV.rens τ pr cs)
  | .row T sz len cols tail => .row T sz (len.prime pr) (cols.map (Col.ren pr)) (tail.map (SV.rens τ pr))
  | .map m ix kk sz known => .map m (ix.prime pr) kk (sz.prime pr) (knownRen τ pr known)
  | .abs k st refs => .abs k (st.prime pr) (refs.map τ)
  | .chan c => .chan (c.prime pr)
  | o => o

/-! ### what is renamed says the same -/
mutual
def SV.renOk (σ τ : Nat → Nat) (okv : Nat → Bool) : SV → Bool
  | .ptr n _ => Nat.beq (σ (τ n)) n
  | .sl n _ _ _ => Nat.beq (σ (τ n)) n
  | .map n => Nat.beq (σ (τ n)) n
  | .chan n => Nat.beq (σ (τ n)) n
  | .val c _ => okv c
  | .fn _ a c => SV.renOks σ τ okv a && SV.renOks σ τ okv c
  | .ifc _ x => SV.renOk σ τ okv x
  | .agg l => SV.renOks σ τ okv l
  | .tup l => SV.renOks σ τ okv l
  | .flt _ => false
  | .dptr _ _ _ _ => false
  | _ => true
def SV.renOks (σ τ : Nat → Nat) (okv : Nat → Bool) : List SV → Bool
  | [] => true
  | x :: l => SV.renOk σ τ okv x && SV.renOks σ τ okv l
end
section
variable {e e' : Env} {pr : Nat → E} {okv : Nat → Bool} {σ τ : Nat → Nat}
mutual
theorem SV.ren_ent (hn : Nexts e' e pr okv) : ∀ {x : SV}, x.renOk σ τ okv = true → SV.ent e e' σ x (x.ren τ pr) := by
  intro x h
  have hp : ∀ a : E, a.den e = (a.prime pr).den e' := fun a => (E.prime_den hn a).symm
  cases x with
  | int k a => exact ⟨rfl, by rw [hp]⟩
  | bool a => show _ = _; rw [hp]
  | str a => show _ = _; rw [hp]
  | val c i => show e.val c _ = e'.val c _; rw [hn.val c h, hp]
  | dsl ks a => exact ⟨rfl, by rw [hp]⟩
  | ptr n o =>
    refine ⟨(Nat.eq_of_beq_eq_true h).symm, ?_⟩
    cases o with
    | c j => rfl
    | el i sz j => simp only [Off.den, Off.pri, hp]
  | sl n sz lo len => exact ⟨(Nat.eq_of_beq_eq_true h).symm, rfl, by rw [hp], by rw [hp]⟩
  | map n => exact (Nat.eq_of_beq_eq_true h).symm
  | chan n => exact (Nat.eq_of_beq_eq_true h).symm
  | fn f a c =>
    simp only [SV.renOk, Bool.and_eq_true] at h
    exact ⟨rfl, SV.rens_ent hn h.1, SV.rens_ent hn h.2⟩
  | ifc t x => exact ⟨rfl, SV.ren_ent hn (x := x) h⟩
  | agg l => exact SV.rens_ent hn (l := l) h
  | tup l => exact SV.rens_ent hn (l := l) h
  | flt f => cases h
  | dptr _ _ _ _ => cases h
  | cst v => exact (rfl : _ = _)
  | _ => trivial
theorem SV.rens_ent (hn : Nexts e' e pr okv) : ∀ {l : List SV}, SV.renOks σ τ okv l = true → SV.ents e e' σ l (SV.rens τ pr l) := by
  intro l h
  cases l with
  | nil => trivial
  | cons x l =>
    simp only [SV.renOks, Bool.and_eq_true] at h
    exact ⟨SV.ren_ent hn h.1, SV.rens_ent hn h.2⟩
end
def colsRenOk (okv : Nat → Bool) : List Col → Bool
  | [] => true
  | .val c :: r => okv c && colsRenOk okv r
  | _ :: r => colsRenOk okv r
theorem colsRenOk_mem {c : Nat} : ∀ {l : List Col}, colsRenOk okv l = true → Col.val c ∈ l → okv c = true
  | [], _, h => by cases h
  | col :: r, ho, h => by
    rcases List.mem_cons.1 h with e | h
    · subst e; simp only [colsRenOk, Bool.and_eq_true] at ho; exact ho.1
    · refine colsRenOk_mem (l := r) ?_ h
      cases col <;> simp only [colsRenOk, Bool.and_eq_true] at ho <;> first | exact ho.2 | exact ho
theorem col_ren (hn : Nexts e' e pr okv) {l : List Col} (ho : colsRenOk okv l = true) {col : Col} (hm : col ∈ l) (i : Int) : SV.ent e e' σ (col.at (.il i)) ((col.ren pr).at (.il i)) := by
  have hp : ∀ a : E, a.den e = (a.prime pr).den e' := fun a => (E.prime_den hn a).symm
  cases col with
  | int k c => exact ⟨rfl, by simp only [E.den, hn.fn]⟩
  | bool c => show _ = _; simp only [E.den, hn.fn]
  | str c => show _ = _; simp only [E.den, hn.fn]
  | val c => show e.val c _ = e'.val c _; rw [hn.val c (colsRenOk_mem ho hm)]; rfl
  | dsl ks c => exact ⟨rfl, by simp only [E.den, hn.fn]⟩
  | tc k x j => exact dcell_ent (by simp only [E.den, hp])
/-- What is to be asked of an object that is left. -/
def SObj.renOk (σ τ : Nat → Nat) (pr : Nat → E) (okv : Nat → Bool) : SObj → Option (List Ob)
  | .cells _ cs => cond (SV.renOks σ τ okv cs) (some []) none
  | .row _ sz len cols tail => cond (tail.isEmpty && colsRenOk okv cols && Nat.ble cols.length sz) (some [.e (.o2 .le (.il 0) (len.prime pr))]) none
  | .map _ _ _ _ known => cond known.isEmpty (some []) none
  | .abs _ _ refs => cond (natsSame refs ((refs.map τ).map σ)) (some []) none
  | .chan _ => some []
  | _ => none
theorem SObj.ren_ent (hn : Nexts e' e pr okv) {o : SObj} {l : List Ob} (h : o.renOk σ τ pr okv = some l) (ht : AllT e' l) : SObj.ent e e' σ o (o.ren τ pr) ∧ o.owner = true ∧ (o.ren τ pr).owner = true := by
  have hp : ∀ a : E, a.den e = (a.prime pr).den e' := fun a => (E.prime_den hn a).symm
  cases o with
  | cells T cs =>
    simp only [SObj.renOk] at h
    cases hc : SV.renOks σ τ okv cs with
    | false => rw [hc] at h; cases h
    | true => exact ⟨⟨rfl, SV.rens_ent hn hc⟩, rfl, rfl⟩
  | row T sz len cols tail =>
    simp only [SObj.renOk] at h
    cases hc : (tail.isEmpty && colsRenOk okv cols && Nat.ble cols.length sz) with
    | false => rw [hc] at h; cases h
    | true =>
      rw [hc] at h
      simp only [cond_true, Option.some.injEq] at h
      subst h
      simp only [Bool.and_eq_true, List.isEmpty_iff] at hc
      obtain ⟨⟨rfl, hc2⟩, hc3⟩ := hc
      have h0 : ((E.o2 .le (.il 0) (len.prime pr)).den e').B = true := ht _ (List.mem_cons_self ..)
      rw [B_le] at h0
      have h0 := of_decide_eq_true h0
      rw [← hp] at h0
      refine ⟨⟨rfl, rfl, rfl, h0, by rw [hp]; simp, by rw [List.length_map]; exact Nat.le_of_ble_eq_true hc3, fun j col' hj => ⟨fun i hi => ?_, fun k t hk => by simp at hk⟩⟩, rfl, rfl⟩
      rw [List.getElem?_map, Option.map_eq_some_iff] at hj
      obtain ⟨col, h1, rfl⟩ := hj
      exact ⟨col, h1, col_ren hn hc2 (List.mem_of_getElem? h1) i⟩
  | map m ix kk sz known =>
    simp only [SObj.renOk] at h
    cases hc : known.isEmpty with
    | false => rw [hc] at h; cases h
    | true =>
      have hk : known = [] := by simpa using hc
      subst hk
      refine ⟨⟨rfl, fun p hm => (by cases hm), by rw [hp], [], [], rfl, rfl, fun k _ => ?_⟩, rfl, rfl⟩
      rw [hp]
      congr 1
      unfold res
      split
      · rfl
      · rw [hn.mp]
  | abs k st refs =>
    simp only [SObj.renOk] at h
    cases hc : natsSame refs ((refs.map τ).map σ) with
    | false => rw [hc] at h; cases h
    | true => exact ⟨⟨rfl, by rw [hp], natsSame_eq hc, hn.ab.symm⟩, rfl, rfl⟩
  | chan c => exact ⟨(by show _ = _; rw [hp]), rfl, rfl⟩
  | _ => cases h
end

def vcsP : List Ob → Prog Unit
  | [] => .ret ()
  | o :: r => do vcO o; vcsP r
theorem run_vcsP {env : Env} : ∀ {l : List Ob} {h h' : Heap} {u : Unit}, (vcsP l).Run env h u h' ↔ AllT env l ∧ h = h'
  | [], h, h', u => by simp only [vcsP, run_ret]; exact ⟨fun e => ⟨fun x hx => (by cases hx), e.2⟩, fun e => ⟨trivial, e.2⟩⟩
  | o :: r, h, h', u => by
    simp only [vcsP, run_bind, run_vcO, run_vcsP]
    constructor
    · rintro ⟨_, _, ⟨h1, rfl⟩, h2, rfl⟩
      exact ⟨fun x hx => by rcases List.mem_cons.1 hx with rfl | hx; exact h1; exact h2 x hx, rfl⟩
    · rintro ⟨h1, rfl⟩
      exact ⟨(), _, ⟨h1 o (List.mem_cons_self ..), rfl⟩, fun x hx => h1 x (List.mem_cons_of_mem _ hx), rfl⟩

theorem run_get {α : Type} {env : Env} {n : Nat} {k : SObj → Prog α} {h h' : Heap} {b : α} : (Prog.get n k).Run env h b h' ↔ ∃ o, hget h n = some o ∧ (k o).Run env h b h' := Iff.rfl
theorem passP_heap {env : Env} : ∀ {hp : CHeap} {l r : List (Nat × Nat)} {h h' : Heap}, (passP hp l).Run env h r h' → h = h'
  | [], l, r, h, h', he => by simp only [passP, run_ret] at he; exact he.2
  | (m, o) :: hp, l, r, h, h', he => by
    unfold passP at he
    split at he
    · exact passP_heap he
    · obtain ⟨x, _, h2⟩ := run_get.1 he; exact passP_heap h2
theorem autoP_heap {env : Env} {sl : List SV} {H : Head} {r : List (Nat × Nat)} {h h' : Heap} (he : (autoP sl H).Run env h r h') : h = h' := by
  simp only [autoP, run_bind] at he
  obtain ⟨_, _, h1, _, _, h2, h3⟩ := he
  rw [passP_heap h1, passP_heap h2, passP_heap h3]

def entHpP (pr : Nat → E) (okv : Nat → Bool) (σ : Nat → Nat) : CHeap → Prog Unit
  | [] => .ret ()
  | (m, o') :: r => do
    let o ← getN (σ m)
    must (placed o) "entry: an object that has no place"
    let es ← ofOpt (objC pr okv σ o o') "entry: an object"
    vcsP es
    entHpP pr okv σ r
theorem entHpP_ok {env e : Env} {pr : Nat → E} {okv : Nat → Bool} (hn : Nexts env e pr okv) {σ : Nat → Nat} {S : List Nat} : ∀ {hp : CHeap} {h h' : Heap} {u : Unit}, (entHpP pr okv σ hp).Run env h u h' → (∀ x ∈ hp, x.2.owner = true → σ x.1 ∈ S) →
    h = h' ∧ entHpF env e σ h S hp ∧ ∀ x ∈ hp, ∃ o, hget h (σ x.1) = some o ∧ placed o = true
  | [], h, h', u, he, _ => by simp only [entHpP, run_ret] at he; exact ⟨he.2, trivial, fun x hx => by cases hx⟩
  | (m, o') :: r, h, h', u, he, hS => by
    simp only [entHpP, run_bind, run_getN, run_must, run_ofOpt, run_vcsP] at he
    obtain ⟨o, _, ⟨ho, rfl⟩, _, _, ⟨hpl, rfl⟩, es, _, ⟨hes, rfl⟩, _, _, ⟨ht, rfl⟩, he⟩ := he
    obtain ⟨rfl, h2, h3⟩ := entHpP_ok hn he (fun x hx => hS x (List.mem_cons_of_mem _ hx))
    refine ⟨rfl, ⟨?_, h2⟩, fun x hx => ?_⟩
    · rw [ho]; exact ⟨objC_ok hn hes ht, fun ho' => hS _ (List.mem_cons_self ..) ho'⟩
    · rcases List.mem_cons.1 hx with rfl | hx
      · exact ⟨o, ho, hpl⟩
      · exact h3 x hx

def decP : List (E × Nat) → Prog Nat
  | [] => .fail "no exit"
  | (c, ν) :: r => do
    let b ← decE c
    match b with
    | true => return ν
    | false => decP r
theorem decP_heap {env : Env} : ∀ {l : List (E × Nat)} {ν : Nat} {h h' : Heap}, (decP l).Run env h ν h' → h = h'
  | [], _, _, _, he => he.elim
  | (c, m) :: r, ν, h, h', he => by
    simp only [decP, run_bind, run_decE] at he
    obtain ⟨b, _, ⟨_, rfl⟩, he⟩ := he
    cases b with
    | true => simp only [run_pure] at he; exact he.2
    | false => exact decP_heap he
theorem decP_ok {env e : Env} {pr : Nat → E} {okv : Nat → Bool} (hn : Nexts env e pr okv) : ∀ {l : List (E × Nat)} {ν m : Nat} {h h' : Heap} {xs : List Ob}, (decP (l.map fun x => (x.1.prime pr, x.2))).Run env h ν h' → LoopY.exitObl l m = some xs → AllT e xs → ν = m
  | [], _, _, _, _, _, he, _, _ => he.elim
  | (c, ν0) :: r, ν, m, h, h', xs, he, hx, ht => by
    simp only [List.map_cons, decP, run_bind, run_decE] at he
    obtain ⟨b, _, ⟨hb, rfl⟩, he⟩ := he
    rw [E.prime_den hn] at hb
    unfold LoopY.exitObl at hx
    cases hm : Nat.beq ν0 m with
    | true =>
      rw [hm] at hx
      simp only [cond_true, Option.some.injEq] at hx
      obtain rfl := Nat.eq_of_beq_eq_true hm
      cases b with
      | true => simp only [run_pure] at he; exact he.1.symm
      | false =>
        exfalso
        have : (c.den e).B = true := by
          cases hs : c.same (.bl true) with
          | true => rw [E.same_eq hs]; rfl
          | false =>
            rw [hs] at hx; subst hx
            exact ht _ (List.mem_singleton.2 rfl)
        rw [hb] at this; cases this
    | false =>
      rw [hm] at hx
      simp only [cond_false, Option.map_eq_some_iff] at hx
      obtain ⟨ys, hy, rfl⟩ := hx
      have hc : ((notE c).den e).B = true := ht _ (List.mem_cons_self ..)
      rw [B_notE, hb] at hc
      cases b with
      | true => cases hc
      | false => exact decP_ok hn he hy fun x hx => ht x (List.mem_cons_of_mem _ hx)

/-! ### what a loop's own variables are: found by what is alike -/
def addE (ps : List Nat) (a b : E) (θ : List (Nat × E)) : List (Nat × E) :=
  match b with
  | .v p => cond (inL p ps && !(θ.any fun x => Nat.beq x.1 p)) ((p, a) :: θ) θ
  | _ => θ
mutual
def uni (ps : List Nat) : SV → SV → List (Nat × E) → List (Nat × E)
  | .int _ a, .int _ b, θ => addE ps a b θ
  | .bool a, .bool b, θ => addE ps a b θ
  | .str a, .str b, θ => addE ps a b θ
  | .dsl _ a, .dsl _ b, θ => addE ps a b θ
  | .nilsl, .dsl _ b, θ => addE ps (.il 0) b θ
  | .sl _ _ a c, .sl _ _ b d, θ => addE ps c d (addE ps a b θ)
  | .ifc _ x, .ifc _ y, θ => uni ps x y θ
  | .agg a, .agg b, θ => unis ps a b θ
  | .tup a, .tup b, θ => unis ps a b θ
  | .fn _ a c, .fn _ b d, θ => unis ps c d (unis ps a b θ)
  | _, _, θ => θ
def unis (ps : List Nat) : List SV → List SV → List (Nat × E) → List (Nat × E)
  | x :: a, y :: b, θ => unis ps a b (uni ps x y θ)
  | _, _, θ => θ
end
def uniC (ps : List Nat) : List Col → List Col → List (Nat × E) → List (Nat × E)
  | .tc _ a _ :: l, .tc _ b _ :: m, θ => uniC ps l m (addE ps a b θ)
  | _ :: l, _ :: m, θ => uniC ps l m θ
  | _, _, θ => θ
def uniO (ps : List Nat) : SObj → SObj → List (Nat × E) → List (Nat × E)
  | .cells _ a, .cells _ b, θ => unis ps a b θ
  | .row _ _ a c _, .row _ _ b d _, θ => uniC ps c d (addE ps a b θ)
  | .inp _ a _, .inp _ b _, θ => addE ps a b θ
  | .map _ a _ c _, .map _ b _ d _, θ => addE ps c d (addE ps a b θ)
  | .abs _ a _, .abs _ b _, θ => addE ps a b θ
  | .chan a, .chan b, θ => addE ps a b θ
  | _, _, θ => θ
def uniOv (ps : List Nat) (sl : List SV) : List (Nat × SV) → List (Nat × E) → List (Nat × E)
  | [], θ => θ
  | (j, y) :: r, θ => uniOv ps sl r (match nth sl j with | some x => uni ps x y θ | none => θ)
def uniP (ps : List Nat) (σ : Nat → Nat) : CHeap → List (Nat × E) → Prog (List (Nat × E))
  | [], θ => .ret θ
  | (m, o') :: r, θ => .get (σ m) fun o => uniP ps σ r (uniO ps o o' θ)
theorem uniP_heap {env : Env} {ps : List Nat} {σ : Nat → Nat} : ∀ {hp : CHeap} {θ r : List (Nat × E)} {h h' : Heap}, (uniP ps σ hp θ).Run env h r h' → h = h'
  | [], θ, r, h, h', he => by simp only [uniP, run_ret] at he; exact he.2
  | (m, o) :: hp, θ, r, h, h', he => by
    unfold uniP at he
    obtain ⟨x, _, h2⟩ := run_get.1 he
    exact uniP_heap h2

theorem hold_append_iff {env : Env} {a b : Facts} : Facts.Hold env (a ++ b) ↔ Facts.Hold env a ∧ Facts.Hold env b :=
  ⟨fun h => ⟨fun e t hm => h e t (List.mem_append_left _ hm), fun e t hm => h e t (List.mem_append_right _ hm)⟩, fun h => hold_append h.1 h.2⟩
/-! ### rows that are data from here on -/
def kdOf : List (TypeId × DKs) → TypeId → Option DKs
  | [], _ => none
  | (t, k) :: r, T => cond (Nat.beq t T) (some k) (kdOf r T)
def frzInP (kd : TypeId → Option DKs) : List Nat → List SV → Prog (List SV)
  | [], sl => .ret sl
  | n :: r, sl => do
    let o ← getN n
    let x ← ofOpt (frzG kd o) "entry: a row that is no data"
    vcsP x.2.2.2.2
    putN n .gone
    frzInP kd r (SV.frzs ⟨n, x.2.1, x.2.2.2.1, x.1, x.2.2.1⟩ sl)
theorem frzInP_ok {env : Env} {kd : TypeId → Option DKs} {A : Anchor} {a : Act} {nx : Nat} {w : World} : ∀ {l : List Nat} {sl sl' : List SV} {h h' : Heap} {ρ : PMap}, (frzInP kd l sl).Run env h sl' h' → Sat env A ρ ⟨sl, []⟩ h nx a w → ∃ ρ', ρ.le ρ' ∧ Sat env A ρ' ⟨sl', []⟩ h' nx a w
  | [], sl, sl', h, h', ρ, hr, hs => by
    simp only [frzInP, run_ret] at hr
    obtain ⟨rfl, rfl⟩ := hr
    exact ⟨ρ, PMap.le_refl ρ, hs⟩
  | n :: r, sl, sl', h, h', ρ, hr, hs => by
    simp only [frzInP, run_bind, run_getN, run_ofOpt, run_vcsP, run_putN] at hr
    obtain ⟨o, _, ⟨ho, rfl⟩, x, _, ⟨hx, rfl⟩, _, _, ⟨ht, rfl⟩, _, _, rfl, hr⟩ := hr
    obtain ⟨ks, sz, e, len, obs⟩ := x
    obtain ⟨ρ1, hle, hpl, HS, hv⟩ := hs.hs.frzG ho hx ht
    obtain ⟨ρ2, h2, hs2⟩ := frzInP_ok hr (ρ := ρ1) ⟨HS, SV.frzs_ok (F := ⟨n, sz, len, ks, e⟩) hle hv hs.sl, by have := hs.df; rw [this.nil_eq]; exact .nil, fun m p hp => hs.nx m p (by rw [← show ρ1 m = ρ m from congrFun hpl m]; exact hp)⟩
    exact ⟨ρ2, PMap.le_trans hle h2, hs2⟩
theorem frzInP_len {env : Env} {kd : TypeId → Option DKs} : ∀ {l : List Nat} {sl sl' : List SV} {h h' : Heap}, (frzInP kd l sl).Run env h sl' h' → sl'.length = sl.length
  | [], sl, sl', h, h', hr => by simp only [frzInP, run_ret] at hr; rw [hr.1]
  | n :: r, sl, sl', h, h', hr => by
    simp only [frzInP, run_bind, run_getN, run_ofOpt, run_vcsP, run_putN] at hr
    obtain ⟨o, _, ⟨ho, rfl⟩, x, _, ⟨hx, rfl⟩, _, _, ⟨ht, rfl⟩, _, _, rfl, hr⟩ := hr
    rw [frzInP_len hr, SV.frzs_length]
namespace LoopY
def ren1 (D : LoopY) (l : List (Nat × Nat)) (nx k : Nat) : Nat := cond (inL k D.fixed) (sig l nx k) (nx + k)
def isNew (D : LoopY) (x : Nat × SObj) : Bool := x.2.owner && !(inL x.1 D.fixed)
def refsOk (tl : List (Nat × Nat)) : List (Nat × SObj) → Bool
  | [] => true
  | (_, .abs _ _ refs) :: r => refs.all (fun m => inL m (tl.map (·.1))) && refsOk tl r
  | _ :: r => refsOk tl r
def newsL (D : LoopY) (Hx : Head) (nx : Nat) : List Nat := (Hx.h.filter D.isNew).map fun x => nx + x.1
def tlL (D : LoopY) (l : List (Nat × Nat)) (nx : Nat) (Hx : Head) : List (Nat × Nat) := Hx.h.map fun x => (D.ren1 l nx x.1, x.1)
/-- Which of the loop's objects a name of around it is. -/
def backK (D : LoopY) (l : List (Nat × Nat)) (nx : Nat) (n : Nat) : CHeap → Option Nat
  | [] => none
  | (k, o) :: r => cond (inL k D.fixed && o.owner && Nat.beq (sig l nx k) n) (some k) (D.backK l nx n r)
def updsK (D : LoopY) (l : List (Nat × Nat)) (nx : Nat) (S : List Nat) (Hx : Head) : List (Nat × Option Nat) :=
  S.map (fun n => (n, D.backK l nx n Hx.h)) ++ (Hx.h.filter D.isNew).map fun x => (nx + x.1, some x.1)
def leftO (D : LoopY) (l : List (Nat × Nat)) (θ : List (Nat × E)) (nx : Nat) (Hx : Head) : Option Nat → SObj
  | none => .gone
  | some k =>
    match cget Hx.h k with
    | some o => o.ren (D.ren1 l nx) (prE θ)
    | none => .gone
def updsL (D : LoopY) (l : List (Nat × Nat)) (θ : List (Nat × E)) (nx : Nat) (S : List Nat) (Hx : Head) : List (Nat × SObj) := (D.updsK l nx S Hx).map fun x => (x.1, D.leftO l θ nx Hx x.2)
def updC (D : LoopY) (l : List (Nat × Nat)) (θ : List (Nat × E)) (nx : Nat) (tl : List (Nat × Nat)) (Hx : Head) : List (Nat × Option Nat) → Option (List Ob)
  | [] => some []
  | (_, none) :: r => D.updC l θ nx tl Hx r
  | (n, some k) :: r =>
    cond (Nat.beq (sig tl Hx.m n) k)
      (match cget Hx.h k with
      | some oE => obl2 (oE.renOk (sig tl Hx.m) (D.ren1 l nx) (prE θ) D.okv) (D.updC l θ nx tl Hx r)
      | none => none) none
def outsL (D : LoopY) (l : List (Nat × Nat)) (θ : List (Nat × E)) (nx : Nat) (Hx : Head) : List (Nat × SV) := Hx.ov.map fun x => (x.1, x.2.ren (D.ren1 l nx) (prE θ))
def ovOk (D : LoopY) (l : List (Nat × Nat)) (nx : Nat) (tl : List (Nat × Nat)) (Hx : Head) : Bool :=
  Hx.ov.all (fun x => Nat.blt x.1 D.N && x.2.renOk (sig tl Hx.m) (D.ren1 l nx) D.okv) && allDiff (Hx.ov.map (·.1))
def outOk (D : LoopY) (l : List (Nat × Nat)) (θ : List (Nat × E)) (nx : Nat) (S : List Nat) (Hx : Head) : Bool :=
  Hx.h.all (fun x => headObj x.2) && allDiff ((D.tlL l nx Hx).map (·.2)) && Hx.h.all (fun x => Nat.blt x.1 Hx.m && (inL x.1 D.fixed || x.2.owner)) && refsOk (D.tlL l nx Hx) (D.updsL l θ nx S Hx) && D.ovOk l nx (D.tlL l nx Hx) Hx
def outP (D : LoopY) (fr : Fr) (l : List (Nat × Nat)) (θ : List (Nat × E)) (nx : Nat) (S : List Nat) (ν : Nat) : Prog (SExit × Fr × Nat) := do
  must (D.outOk l θ nx S (D.hx ν)) "exit: names"
  let es2 ← ofOpt (D.updC l θ nx (D.tlL l nx (D.hx ν)) (D.hx ν) (D.updsK l nx S (D.hx ν))) "exit: objects"
  vcsP es2
  putsP (D.updsL l θ nx S (D.hx ν))
  return (D.exN ν, ⟨setL (D.outsL l θ nx (D.hx ν)) (tops D.js fr.sl), []⟩, nx + (D.hx ν).m)
def lpP (D : LoopY) (fr : Fr) (nx : Nat) : Option (Prog (SExit × Fr × Nat)) :=
  cond (fr.df.isEmpty && Nat.beq fr.sl.length D.N && Nat.ble D.N 1000)
    (cond (D.app fr.sl) (some (do
      let μ ← D.mode fr.sl
      must (D.ok0 μ) "entry: mode"
      let sl ← frzInP (kdOf D.kds) (dedupN (wantOv fr.sl (D.hd μ).ov)) fr.sl
      let l ← autoP sl (D.hd μ)
      must (allDiff (l.map (·.2)) && l.all (fun x => Nat.blt x.1 (D.hd μ).m) && D.fixed.all (fun k => inL k ((D.hd μ).h.map (·.1))) && (D.hd μ).h.all (fun x => headObj x.2)) "entry: names"
      let θ0 ← uniP D.params (sig l nx) (D.hd μ).h (uniOv D.params sl (D.hd μ).ov [])
      must ((θ0.map (·.1)).all (fun p => inL p D.params)) "entry: the loop's own variables"
      let θ := (D.r, E.il 0) :: θ0
      let es ← ofOpt (entOvC (prE θ) D.okv (sig l nx) sl (D.hd μ).ov) "entry: slots"
      vcsP (LoopY.factsO (primeF (prE θ) (D.ent μ ++ D.mf μ)))
      vcsP es
      entHpP (prE θ) D.okv (sig l nx) (D.hd μ).h
      let ν ← decP (D.exits.map fun x => (x.1.prime (prE θ), x.2))
      D.outP ⟨sl, []⟩ l θ nx (((D.hd μ).h.filter fun x => x.2.owner).map fun x => sig l nx x.1) ν)) none) none
end LoopY

/-- What is asked of a loop's contract. -/
def LpOk (P : Program) (env : Env) (f : FuncId) (key : Nat) (pp : Fr → Nat → Option (Prog (SExit × Fr × Nat))) : Prop :=
  ∀ (w0 : Anchor) fr nx p h ex fr' h' nx', pp fr nx = some p → p.Run env h (ex, fr', nx') h' → nx ≤ nx' ∧ ∀ ρ (a : Act) w (Q : Exit → Act → World → Prop), Sat env w0 ρ fr h nx a w →
    (∀ ρ' (a' : Act) w', ρ.le ρ' → Sat env w0 ρ' fr' h' nx' a' w' → Q ex.den a' w') → (Code.loop (theLoop P f key)).wp P Q a w
def FnOk (P : Program) (env : Env) (f : FuncId) (pp : List SV → Nat → Option (Prog (SV × Nat))) : Prop :=
  ∀ (w0 : Anchor) args nx p h r h' nx', pp args nx = some p → p.Run env h (r, nx') h' → nx ≤ nx' ∧ ∀ ρ w vs, HSat env w0 ρ h w → (∀ n p, ρ n = some p → n < nx) → SV.Rels env ρ args vs →
    Calls P f vs.toArray w fun e w' => ∃ ρ' v, e = .returned v ∧ ρ.le ρ' ∧ HSat env w0 ρ' h' w' ∧ (∀ n p, ρ' n = some p → n < nx') ∧ r.Rel env ρ' v

/-- Contracts by lists. -/
structure Ctr where
  fns : List (FuncId × (List SV → Nat → Option (Prog (SV × Nat))))
  lps : List (FuncId × Nat × (Fr → Nat → Option (Prog (SExit × Fr × Nat))))
def fnAt : List (FuncId × (List SV → Nat → Option (Prog (SV × Nat)))) → FuncId → List SV → Nat → Option (Prog (SV × Nat))
  | [], _, _, _ => none
  | (g, p) :: r, f, args, nx => cond (Nat.beq g f) (p args nx) (fnAt r f args nx)
def lpAt : List (FuncId × Nat × (Fr → Nat → Option (Prog (SExit × Fr × Nat)))) → FuncId → Nat → Fr → Nat → Option (Prog (SExit × Fr × Nat))
  | [], _, _, _, _ => none
  | (g, k, p) :: r, f, key, fr, nx => cond (Nat.beq g f && Nat.beq k key) (p fr nx) (lpAt r f key fr nx)
def Ctr.x (c : Ctr) : XCtr := ⟨fnAt c.fns, lpAt c.lps⟩
theorem fnAt_mem : ∀ {l : List (FuncId × (List SV → Nat → Option (Prog (SV × Nat))))} {f : FuncId} {args : List SV} {nx : Nat} {q : Prog (SV × Nat)}, fnAt l f args nx = some q → ∃ x ∈ l, x.1 = f ∧ x.2 args nx = some q
  | [], _, _, _, _, h => by cases h
  | (g, p) :: r, f, args, nx, q, h => by
    unfold fnAt at h
    cases hb : Nat.beq g f with
    | true => rw [hb] at h; exact ⟨(g, p), List.mem_cons_self .., Nat.eq_of_beq_eq_true hb, h⟩
    | false => rw [hb] at h; obtain ⟨x, h1, h2⟩ := fnAt_mem h; exact ⟨x, List.mem_cons_of_mem _ h1, h2⟩
theorem lpAt_mem : ∀ {l : List (FuncId × Nat × (Fr → Nat → Option (Prog (SExit × Fr × Nat))))} {f : FuncId} {key : Nat} {fr : Fr} {nx : Nat} {q : Prog (SExit × Fr × Nat)}, lpAt l f key fr nx = some q → ∃ x ∈ l, x.1 = f ∧ x.2.1 = key ∧ x.2.2 fr nx = some q
  | [], _, _, _, _, _, h => by cases h
  | (g, k, p) :: r, f, key, fr, nx, q, h => by
    unfold lpAt at h
    cases hb : (Nat.beq g f && Nat.beq k key) with
    | true =>
      rw [hb] at h
      rw [Bool.and_eq_true] at hb
      exact ⟨(g, k, p), List.mem_cons_self .., Nat.eq_of_beq_eq_true hb.1, Nat.eq_of_beq_eq_true hb.2, h⟩
    | false => rw [hb] at h; obtain ⟨x, h1, h2⟩ := lpAt_mem h; exact ⟨x, List.mem_cons_of_mem _ h1, h2⟩
theorem Ctr.ok {P : Program} {env : Env} {c : Ctr} (hap : c.lps.all (fun x => loopsApart P x.1) = true) (hf : ∀ x ∈ c.fns, FnOk P env x.1 x.2) (hl : ∀ x ∈ c.lps, LpOk P env x.1 x.2.1 x.2.2) (w0 : Anchor) : ExtOk P env w0 (c.x.toExt P) := by
  refine ⟨fun f args nx p h r h' nx' hx hr => ?_, fun code fr nx p h ex fr' h' nx' hx hr => ?_⟩
  · obtain ⟨x, hm, rfl, hp⟩ := fnAt_mem hx
    exact hf x hm w0 args nx p h r h' nx' hp hr
  · obtain ⟨f, fn, body, k, h1, h2, h3, h4⟩ := hx
    obtain ⟨x, hm, rfl, rfl, hp⟩ := lpAt_mem h4
    rw [theLoop_eq (List.all_eq_true.1 hap x hm) h1 h2 h3]
    exact hl x hm w0 fr nx p h ex fr' h' nx' hp hr

namespace LoopY
theorem updC_ok {D : LoopY} {env e : Env} {l : List (Nat × Nat)} {θ : List (Nat × E)} {nx : Nat} (hn : Nexts env e (prE θ) D.okv) {tl : List (Nat × Nat)} {Hx : Head} : ∀ {us : List (Nat × Option Nat)} {es : List Ob}, D.updC l θ nx tl Hx us = some es → AllT env es →
    ∀ n o, (n, o) ∈ us.map (fun x => (x.1, D.leftO l θ nx Hx x.2)) → o = .gone ∨ (o.owner = true ∧ ∃ oE, cget Hx.h (sig tl Hx.m n) = some oE ∧ oE.owner = true ∧ SObj.ent e env (sig tl Hx.m) oE o)
  | [], es, _, _, n, o, h => by cases h
  | (n0, none) :: r, es, hc, ht, n, o, hm => by
    simp only [updC] at hc
    simp only [List.map_cons] at hm
    rcases List.mem_cons.1 hm with e1 | hm
    · injection e1 with e1 e2; exact .inl e2
    · exact updC_ok hn hc ht n o hm
  | (n0, some k) :: r, es, hc, ht, n, o, hm => by
    simp only [updC] at hc
    cases hb : Nat.beq (sig tl Hx.m n0) k with
    | false => rw [hb] at hc; cases hc
    | true =>
      rw [hb] at hc
      simp only [cond_true] at hc
      split at hc
      · rename_i oE hg
        obtain ⟨l1, l2, h1, h2, rfl⟩ := obl2_some hc
        obtain ⟨t1, t2⟩ := allT_append.1 ht
        simp only [List.map_cons] at hm
        rcases List.mem_cons.1 hm with e1 | hm
        · injection e1 with e1 e2; subst e1
          obtain ⟨g1, g2, g3⟩ := SObj.ren_ent hn h1 t1
          have e3 : o = oE.ren (D.ren1 l nx) (prE θ) := by
            rw [e2]
            show (match cget Hx.h k with | some o => o.ren (D.ren1 l nx) (prE θ) | none => .gone) = _
            rw [hg]
          rw [e3]
          exact .inr ⟨g3, oE, by rw [Nat.eq_of_beq_eq_true hb]; exact hg, g2, g1⟩
        · exact updC_ok hn h2 t2 n o hm
      · cases hc
theorem ovOk_ent {env e : Env} {pr : Nat → E} {okv : Nat → Bool} {σ τ : Nat → Nat} (hn : Nexts env e pr okv) {sl : List SV} : ∀ {ov : List (Nat × SV)}, (∀ x ∈ ov, nth sl x.1 = some x.2 ∧ x.2.renOk σ τ okv = true) → entOv e env σ sl (ov.map fun x => (x.1, x.2.ren τ pr))
  | [], _ => trivial
  | (j, y) :: r, h => by
    obtain ⟨h1, h2⟩ := h _ (List.mem_cons_self ..)
    refine ⟨?_, ovOk_ent hn fun x hx => h x (List.mem_cons_of_mem _ hx)⟩
    simp only at h1
    rw [h1]
    exact SV.ren_ent hn h2
theorem ovGet_of_mem : ∀ {l : List (Nat × SV)} {j : Nat} {x : SV}, allDiff (l.map (·.1)) = true → (j, x) ∈ l → ovGet l j = some x
  | [], _, _, _, h => by cases h
  | (i, y) :: r, j, x, hd, h => by
    simp only [List.map_cons, allDiff, Bool.and_eq_true, Bool.not_eq_true'] at hd
    unfold ovGet
    rcases List.mem_cons.1 h with e | h
    · injection e with e1 e2; subst e1; subst e2; simp
    · have : Nat.beq i j = false := by
        rw [Bool.eq_false_iff]
        intro he
        obtain rfl := Nat.eq_of_beq_eq_true he
        rw [inL_iff.2 (List.mem_map.2 ⟨(i, x), h, rfl⟩ : i ∈ r.map (·.1))] at hd
        exact absurd hd.1 (by simp)
      rw [this]
      exact ovGet_of_mem hd.2 h
theorem refsOk_ok {tl : List (Nat × Nat)} : ∀ {us : List (Nat × SObj)}, refsOk tl us = true → ∀ n k st refs, (n, .abs k st refs) ∈ us → ∀ m ∈ refs, m ∈ tl.map (·.1)
  | [], _, _, _, _, _, h, _, _ => by cases h
  | (n0, o0) :: r, hc, n, k, st, refs, hm, m, hmr => by
    rcases List.mem_cons.1 hm with e | hm
    · injection e with e1 e2
      subst e2
      simp only [refsOk, Bool.and_eq_true] at hc
      exact inL_iff.1 (List.all_eq_true.1 hc.1 m hmr)
    · refine refsOk_ok (us := r) ?_ n k st refs hm m hmr
      unfold refsOk at hc
      split at hc
      · rename_i heq; cases heq
      · rename_i heq; injection heq with _ h2; subst h2; rw [Bool.and_eq_true] at hc; exact hc.2
      · rename_i heq; injection heq with _ h2; subst h2; exact hc
theorem ovGet_map {g : SV → SV} : ∀ {l : List (Nat × SV)} {j : Nat}, ovGet (l.map fun x => (x.1, g x.2)) j = none → ovGet l j = none
  | [], _, _ => rfl
  | (i, x) :: r, j, h => by
    simp only [List.map_cons, ovGet] at h ⊢
    cases hb : Nat.beq i j with
    | true => rw [hb] at h; cases h
    | false => rw [hb] at h; exact ovGet_map h

theorem keys1 {g : Nat → SObj} : ∀ {S : List Nat}, (S.map fun n => (n, g n)).map (·.1) = S
  | [] => rfl
  | a :: S => by simp only [List.map_cons, keys1]
theorem keys2 {nx : Nat} {g : Nat × SObj → SObj} : ∀ {l : CHeap}, (l.map fun x => (nx + x.1, g x)).map (·.1) = l.map fun x => nx + x.1
  | [] => rfl
  | a :: S => by simp only [List.map_cons, keys2]

/-- What is to be known of a loop's rounds. -/
structure Rounds (P : Program) (D : LoopY) (env : Env) (μ0 : Nat) where
  n : Nat
  mode : (Nat → Value) → Nat → Nat → Prop
  L : Nat → List (Facts × List Ob)
  hX : ∀ i u A, i ≤ n → ExtOk P (D.env env u i) A (D.X.toExt P)
  hob : ∀ u i μ, mode u i μ → D.obl P μ = some (L μ)
  hall : ∀ i μ u, mode u i μ → i ≤ n → ∀ x ∈ L μ, x.1.Hold (D.env env u i) → AllT (D.env env u i) x.2
  hfs : ∀ i μ u, mode u i μ → i ≤ n → (D.hd μ).fs.Hold (D.env env u i)
  hlt : ∀ i u, i ≤ n → (D.lt.den (D.env env u i)).B = true → i < n
  hturn : ∀ u i μ μ', mode u i μ → D.tgt μ' = true → (D.mf μ').Hold (D.env env u (i + 1)) → i + 1 ≤ n → ∃ μ2, mode u (i + 1) μ2 ∧ SameH (D.hd μ2) (D.hd μ')
  hm0 : ∀ u, (D.mf μ0).Hold (D.env env u 0) → ∃ μ2, mode u 0 μ2 ∧ SameH (D.hd μ2) (D.hd μ0)

/-- An environment that is another one but for a loop's own variables. -/
structure Like (D : LoopY) (env e' : Env) : Prop where
  v : ∀ n, n ∉ D.params → n ≠ D.r → e'.v n = env.v n
  r : e'.v D.r = .i 0
  fn : e'.fn = env.fn
  val : e'.val = env.val
  mp : e'.mp = env.mp
  uf : e'.uf = env.uf
  ab : e'.ab = env.ab

/-- The contract of a loop whose rounds were computed. -/
theorem lp_okP {P : Program} (hP : Plain P) (hM : P.follows .mixedOrders = true) {D : LoopY} (hbody : ((P.funcs[D.f]?).bind (·.body)).isSome = true) {env : Env}
    (hR : ∀ e', Like D env e' → ∀ μ0, D.ok0 μ0 = true → (D.ent μ0).Hold e' → Nonempty (Rounds P D e' μ0)) (hxobj : ∀ ν, ((D.hx ν).h.all fun x => headObj x.2) = true) : LpOk P env D.f D.key D.lpP := by
  intro w0 fr nx p h ex fr' h' nx' hp hr
  unfold lpP at hp
  cases hc : (fr.df.isEmpty && Nat.beq fr.sl.length D.N && Nat.ble D.N 1000) with
  | false => rw [hc] at hp; cases hp
  | true =>
    rw [hc] at hp
    simp only [Bool.and_eq_true, Nat.beq_eq, List.isEmpty_iff] at hc
    obtain ⟨⟨hdf, hN⟩, hN1⟩ := hc
    have hN1 := Nat.le_of_ble_eq_true hN1
    cases happ : D.app fr.sl with
    | false => rw [happ] at hp; cases hp
    | true =>
      rw [happ] at hp
      simp only [cond_true, Option.some.injEq] at hp
      subst hp
      simp only [run_bind, run_must, run_ofOpt, run_vcsP] at hr
      obtain ⟨μ0, _, hmd, _, _, ⟨hok0, rfl⟩, sl, h1, hfr, l, _, ha, _, _, ⟨hchk, rfl⟩, θ0, _, hθ, _, _, ⟨hθ2, rfl⟩, es, _, ⟨hes, rfl⟩, _, _, ⟨htf, rfl⟩, _, _, ⟨htes, rfl⟩, _, hx, hE, ν, hy, hdec, hout⟩ := hr
      obtain rfl := D.modeP _ hmd
      have hsll := frzInP_len hfr
      have hfr0 : ∀ {A : Anchor} {ρ : PMap} {a : Act} {w : World}, Sat env A ρ fr h nx a w → ∃ ρ', ρ.le ρ' ∧ Sat env A ρ' ⟨sl, []⟩ h1 nx a w := fun hs => frzInP_ok hfr (by
        have : (⟨fr.sl, []⟩ : Fr) = fr := by rw [← hdf]
        rw [this]; exact hs)
      have hN' : sl.length = D.N := hsll.trans hN
      clear hfr
      obtain rfl := autoP_heap ha
      obtain rfl := uniP_heap hθ
      have hpθ : ∀ p ∈ θ0.map (·.1), p ∈ D.params := fun p hp => inL_iff.1 (List.all_eq_true.1 hθ2 p hp)
      generalize hθd : (D.r, E.il 0) :: θ0 = θ at *
      have hrθ : prE θ D.r = .il 0 := by rw [← hθd]; unfold prE; rw [Nat.beq_refl]; rfl
      have hlike : Like D env (withP env θ) := ⟨fun n hn hr => by
        show (prE θ n).den env = env.v n
        rw [← hθd, prE_no fun hm => ?_]
        · rfl
        · simp only [List.map_cons, List.mem_cons] at hm
          rcases hm with h | h
          · exact hr h
          · exact hn (hpθ n h), by show (prE θ D.r).den env = .i 0; rw [hrθ]; rfl, rfl, rfl, rfl, rfl, rfl⟩
      have htf := factsO_ok htf
      have hent : (D.ent μ0 ++ D.mf μ0).Hold (withP env θ) := primeF_ok (nextP env θ) htf
      obtain ⟨n, mode, L, hX, hob, hall, hfs, hlt, hturn, hm0⟩ := hR _ hlike μ0 hok0 (hold_append_iff.1 hent).1
      simp only [Bool.and_eq_true] at hchk
      obtain ⟨⟨⟨hinj, hltl⟩, hfix⟩, hobj⟩ := hchk
      have hnE0 := D.nextE (e := env) (θ := θ) hrθ fun _ => .nilIface
      obtain ⟨rfl, _⟩ : h1 = hx ∧ True := ⟨(entHpP_ok (S := ((D.hd μ0).h.map fun x => sig l nx x.1)) hnE0 hE fun x hx _ => List.mem_map.2 ⟨x, hx, rfl⟩).1, trivial⟩
      obtain rfl := decP_heap hdec
      simp only [outP, run_bind, run_must, run_ofOpt, run_vcsP, run_puts, run_pure] at hout
      obtain ⟨_, _, ⟨hok, rfl⟩, es2, _, ⟨he2, rfl⟩, _, _, ⟨hto, rfl⟩, _, _, rfl, e1, rfl⟩ := hout
      injection e1 with e1 e2
      injection e2 with e2 e3
      subst e1; subst e2; subst e3
      refine ⟨Nat.le_add_right .., fun ρ0 a w Q hs0 hQ0 => ?_⟩
      obtain ⟨ρ, hle0, hs⟩ := hfr0 hs0
      have hQ : ∀ ρ' (a' : Act) w', ρ.le ρ' → Sat env w0 ρ' _ _ _ a' w' → Q (D.exN ν).den a' w' := fun ρ' a' w' hle hs' => hQ0 ρ' a' w' (PMap.le_trans hle0 hle) hs'
      obtain ⟨μA, hA⟩ := hs.hs.abs
      have hal : a.tmps.toList.length = D.N := by rw [hs.sl.length]; exact hN'
      let u : Nat → Value := fun j => (a.tmps.toList[j]?).getD undef
      have hvu : ∀ i j, j < D.N → (D.env (withP env θ) u i).val (D.base + j) 0 = (a.tmps.toList[j]?).getD undef := by
        intro i j hj
        show (if D.base ≤ D.base + j ∧ D.base + j < D.base + 1000 then u (D.base + j - D.base) else env.val _ _) = _
        rw [if_pos ⟨by omega, by omega⟩, Nat.add_sub_cancel_left]
      have hnE := D.nextE (e := env) (θ := θ) hrθ u
      obtain ⟨_, hhp, hpl⟩ := entHpP_ok (S := (((D.hd μ0).h.filter fun x => x.2.owner).map fun x => sig l nx x.1)) hnE hE fun x hx ho => List.mem_map.2 ⟨x, List.mem_filter.2 ⟨hx, ho⟩, rfl⟩
      have hin := sat_in_full (vB := D.base) (js := D.js) hs hA (entOvC_ok hnE hes htes) hhp hobj hinj (fun x hx => by
        have := List.all_eq_true.1 hltl x hx
        unfold Nat.blt at this
        exact Nat.le_of_ble_eq_true this) rfl hN' (hvu 0)
      obtain ⟨μ2, hm2, hsame⟩ := hm0 u (primeF_ok hnE fun e b hm => htf e b (by
        obtain ⟨x, hx, hx2⟩ := List.mem_map.1 hm
        exact List.mem_map.2 ⟨x, List.mem_append_right _ hx, hx2⟩))
      have hin2 : Sat (D.env (withP env θ) u 0) (anchorBut w ρ (ownedBy ρ h1 μA (((D.hd μ0).h.filter fun x => x.2.owner).map fun x => sig l nx x.1))) (ρ.re (sig l nx)) ⟨mkSl (D.full (D.hd μ2)).ov u 0 D.N, []⟩ (cden (D.hd μ2).h) (D.hd μ2).m a w := by
        have hq1 := (hsame.full D.base D.N D.js).ov
        unfold LoopY.full
        rw [hq1, hsame.h, hsame.m]
        exact hin
      refine LoopY.comp hP hM hbody (n := n) (u := u) (L := L) (mode := mode u) (fun i hi => hX i u _ hi) (hob u) (fun i μ hm hi => hall i μ u hm hi) (fun i μ hm hi => hfs i μ u hm hi) (fun i hi => hlt i u hi) (hturn u) hxobj hm2 hin2 ?_
      intro ν' ρE a' w' ⟨xs, hxs, htx⟩ hfixE hsE
      obtain rfl := decP_ok hnE hdec hxs htx
      unfold outOk at hok
      simp only [Bool.and_eq_true] at hok
      obtain ⟨⟨⟨⟨hxo, hdiff⟩, hxall⟩, hrefs⟩, hov⟩ := hok
      have hxall := List.all_eq_true.1 hxall
      unfold ovOk at hov
      rw [Bool.and_eq_true] at hov
      obtain ⟨hov1, hov2⟩ := hov
      obtain ⟨hle, hso⟩ := sat_out_full (vB := D.base) (e := D.env (withP env θ) u 0) (js := D.js) (nx' := nx + (D.hx ν).m) (news := D.newsL (D.hx ν) nx) hs hA hsE (tl := D.tlL l nx (D.hx ν)) (upds := D.updsL l θ nx _ (D.hx ν)) (outs := D.outsL l θ nx (D.hx ν))
        (fun m => by
          unfold updsL updsK newsL
          simp only [List.map_map, List.map_append, List.mem_append, Function.comp_def])
        (fun m hm => by
          obtain ⟨y, hy, rfl⟩ := List.mem_map.1 hm
          have := hxall y (List.mem_filter.1 hy).1
          rw [Bool.and_eq_true] at this
          have h1 := this.1
          unfold Nat.blt at h1
          have := Nat.le_of_ble_eq_true h1
          omega) (Nat.le_add_right ..)
        (updC_ok hnE he2 hto) (refsOk_ok hrefs) rfl hfixE.2 hdiff
        (fun x hx => by
          obtain ⟨y, hy, rfl⟩ := List.mem_map.1 hx
          have := hxall y hy
          rw [Bool.and_eq_true, Bool.or_eq_true] at this
          simp only
          cases hf : inL y.1 D.fixed with
          | true =>
            have hk := List.all_eq_true.1 hfix y.1 (inL_iff.1 hf)
            obtain ⟨z, hz, hz1⟩ := List.mem_map.1 (inL_iff.1 hk)
            obtain ⟨o, ho, hpo⟩ := hpl z hz
            obtain ⟨q, hq⟩ := placed_some (hs.hs.objs _ o ho) hpo
            refine .inr ?_
            unfold ren1
            rw [hf]
            rw [hz1] at hq
            rw [show (bif true then sig l nx y.1 else nx + y.1) = sig l nx y.1 from rfl, hq]
            exact (hfixE.1 y.1 (inL_iff.1 hf) q hq).symm
          | false =>
            rw [hf] at this
            rcases this.2 with h | h
            · cases h
            · refine .inl (List.mem_map.2 ⟨y, List.mem_filter.2 ⟨hy, ?_⟩, ?_⟩)
              · unfold isNew; rw [h, hf]; rfl
              · unfold ren1; rw [hf]; rfl)
        (ovOk_ent hnE fun x hx => by
          have := List.all_eq_true.1 hov1 x hx
          rw [Bool.and_eq_true] at this
          have h1 := this.1
          unfold Nat.blt at h1
          have h1 : x.1 < D.N := Nat.le_of_ble_eq_true h1
          refine ⟨?_, this.2⟩
          rw [nth_eq, mkSl_get D.N 0 x.1 h1, Nat.zero_add]
          unfold fullH fullOv
          simp only
          rw [ovGet_append, ovGet_of_mem hov2 hx]) rfl hN' (hvu 0) (fun j hj hno => ovGet_map hno)
      exact hQ _ a' w' hle hso
/-- Of one without variables of its own. -/
theorem lp_ok {P : Program} (hP : Plain P) (hM : P.follows .mixedOrders = true) {D : LoopY} (hbody : ((P.funcs[D.f]?).bind (·.body)).isSome = true) (hps : D.params = []) {env : Env} (h0 : env.v D.r = .i 0) (hR : ∀ μ0, D.ok0 μ0 = true → (D.ent μ0).Hold env → Nonempty (Rounds P D env μ0)) (hxobj : ∀ ν, ((D.hx ν).h.all fun x => headObj x.2) = true) : LpOk P env D.f D.key D.lpP := by
  refine lp_okP hP hM hbody (fun e' he => ?_) hxobj
  have : e' = env := by
    have hv : e'.v = env.v := funext fun n => by
      by_cases h : n = D.r
      · rw [h, he.r, h0]
      · exact he.v n (by rw [hps]; simp) h
    obtain ⟨a1, a2, a3, a4, a5, a6⟩ := e'
    obtain ⟨b1, b2, b3, b4, b5, b6⟩ := env
    have h2 := he.fn
    have h3 := he.val
    have h4 := he.mp
    have h5 := he.uf
    have h6 := he.ab
    simp only at hv h2 h3 h4 h5 h6
    subst hv; subst h2; subst h3; subst h4; subst h5; subst h6
    rfl
  subst this
  exact hR
end LoopY
end Go.Sx
