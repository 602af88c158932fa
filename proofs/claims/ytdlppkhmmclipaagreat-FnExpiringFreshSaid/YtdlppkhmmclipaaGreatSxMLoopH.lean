/-
  SX, PART 35: a law's paths, walked case by case: each case with facts of its own ahead, so that few paths are left.
-/
import Derived.Test.YtdlppkhmmclipaaGreatSxMLoopE
import Derived.Maps.RangeRun
namespace Go.Sx
open Go.RowKit
set_option linter.unusedVariables false
set_option linter.unusedSimpArgs false
section
variable {vB : Nat} {env e : Env} {w0 : Anchor} {ρ ρE : PMap} {fr : Fr} {h : Heap} {nx nx' : Nat} {a a' : Act} {w w' : World}
theorem sat_in_full (hs : Sat env w0 ρ fr h nx a w) {S : List Nat} {H : Head} {N : Nat} {js : List Nat} {l : List (Nat × Nat)} (hov : entOv env e (sig l nx) fr.sl H.ov) (hhp : entHpF env e (sig l nx) h S H.h)
    (hobj : H.h.all (fun x => headObj x.2) = true) (hinj : allDiff (l.map (·.2)) = true) (hlt : ∀ x ∈ l, x.1 < H.m) {dfc : List (FuncId × List SV)} (hdi : ∀ ρ', DRel e ρ' dfc a.defers) (hN : fr.sl.length = N)
    (hv : ∀ j, j < N -> e.val (vB + j) 0 = (a.tmps.toList[j]?).getD undef) :
    Sat e (anchorBut w ρ (ownedBy ρ h S)) (ρ.re (sig l nx)) ⟨mkSl (fullH vB N js H).ov (fun j => (a.tmps.toList[j]?).getD undef) 0 N, dfc⟩ (cden H.h) H.m a w := by
  have hs1 := sat_in hs hov hhp hobj hinj hlt hdi hN; have hal : a.tmps.toList.length = N := by rw [hs.sl.length, hN]
  exact ⟨hs1.hs, rels_full hs1.sl (fun j hj => by rw [List.getElem?_eq_getElem (by omega)]; rfl) hv (fun _ _ => rfl), hs1.df, hs1.nx⟩
theorem ovGet_tops_none : ∀ {js : List Nat} {j : Nat}, j ∉ js -> ovGet (topsL js) j = none
  | [], _, _ => rfl
  | i :: r, j, h => by
    simp only [List.mem_cons, not_or] at h; simp only [topsL, List.map_cons, ovGet]; have : Nat.beq i j = false := by rw [Bool.eq_false_iff]; intro he; exact h.1 (Nat.eq_of_beq_eq_true he).symm
    rw [this]; exact ovGet_tops_none (js := r) h.2
theorem sat_out_full {dfc : List (FuncId × List SV)} (hs : Sat env w0 ρ fr h nx a w) {S news : List Nat} {Hx : Head} {N : Nat} {js : List Nat} (hE : Sat e (anchorBut w ρ (ownedBy ρ h S)) ρE ⟨mkSl (fullH vB N js Hx).ov (fun _ => .nilIface) 0 N, dfc⟩ (cden Hx.h) Hx.m a' w')
    {tl : List (Nat × Nat)} {upds : List (Nat × SObj)} {outs : List (Nat × SV)}
    (hkeys : ∀ n, n ∈ upds.map (·.1) ↔ n ∈ S \/ n ∈ news) (hnew : ∀ n ∈ news, nx <= n /\ n < nx') (hnx : nx <= nx')
    (hobj : ∀ n o, (n, o) ∈ upds -> o = .gone \/ (o.owner = true /\ ∃ oE, cget Hx.h (sig tl Hx.m n) = some oE /\ oE.owner = true /\ SObj.ent e env (sig tl Hx.m) oE o) \/ ∃ T ks x, o = .ar T ks x /\ n = arN T /\ ∃ x1, cget Hx.h n = some (.ar T ks x1) /\ (x1.den e).T = (x.den env).T)
    (hfz : Fz.le ρ.fz ρE.fz) (h6 : ∀ T ks x, cget Hx.h (arN T) = some (.ar T ks x) -> arN T ∈ S /\ ∃ ks' x', hget (hputs upds h) (arN T) = some (.ar T ks' x')) (h7 : ∀ T ks x, hget h (arN T) = some (.ar T ks x) -> ∃ ks' x', hget (hputs upds h) (arN T) = some (.ar T ks' x'))
    (hinj : allDiff (tl.map (·.2)) = true) (htl : ∀ x ∈ tl, x.1 ∈ news \/ ρ x.1 = ρE x.2)
    (hout : entOv e env (sig tl Hx.m) (mkSl (fullH vB N js Hx).ov (fun _ => .nilIface) 0 N) outs) (hdb : ∀ ρ' ds, ρ.le ρ' -> DRel e ρE dfc ds -> DRel env ρ' fr.df ds) (hN : fr.sl.length = N)
    (hv : ∀ j, j < N -> e.val (vB + j) 0 = (a.tmps.toList[j]?).getD undef) (hjo : ∀ j, j < N -> ovGet outs j = none -> ovGet Hx.ov j = none) :
    ρ.le (backMap ρ ρE (sig tl Hx.m) news) /\ Sat env w0 (backMap ρ ρE (sig tl Hx.m) news) ⟨setL outs (tops js fr.sl), fr.df⟩ (hputs upds h) nx' a' w' := by
  have hal : a.tmps.toList.length = N := by rw [hs.sl.length, hN]
  refine sat_out hs hE hkeys hnew hnx hobj hfz h6 h7 hinj htl hout hdb (by rw [mkSl_length, hN]) (fun j hj hjj hno => ?_)
  rw [hN] at hj; have h2 := hjo j hj hno; obtain ⟨v, hv', hr⟩ := sl_of_mk hE.sl hj
  have hx : ovGet (fullH vB N js Hx).ov j = some (.val (vB + j) (.il 0)) := by
    obtain ⟨x, hx⟩ := ovGet_full (vB := vB) (js := js) (ov := Hx.ov) hj; have hx2 := hx; unfold fullOv at hx2; rw [ovGet_append, h2] at hx2; simp only at hx2; rw [ovGet_append, ovGet_tops_none hjj] at hx2; simp only at hx2; rw [ovGet_stays hx2] at hx; exact hx
  rw [hx] at hr; have : v = e.val (vB + j) 0 := hr; rw [hv', this, hv j hj, List.getElem?_eq_getElem (by omega)]
  rfl
end
def placed : SObj -> Bool
  | .cells .. => true
  | .row .. => true
  | .inp .. => true
  | .map .. => true
  | .dmp .. => true
  | .itr .. => true
  | .bag .. => true
  | .chan .. => true
  | _ => false
theorem placed_some {env : Env} {w0 : Anchor} {ρ : PMap} {n : Nat} {o : SObj} {w : World} (h : o.Rel env w0 ρ n w) (hp : placed o = true) : ∃ p, ρ n = some p := by
  cases o with
  | inp sz len cols => obtain ⟨p, h1, _⟩ := h; exact ⟨p, h1⟩
  | resv => cases hp
  | gone => cases hp
  | ar => cases hp
  | fwd => cases hp
  | dwd => cases hp
  | _ => obtain ⟨p, _, h1, _⟩ := h.place rfl; exact ⟨p, h1⟩
def Col.ren (pr : Nat -> E) : Col -> Col
  | .tc k e j => .tc k (e.prime pr) j
  | c => c
def SObj.ren (τ : Nat -> Nat) (pr : Nat -> E) : SObj -> SObj
  | .cells T cs => .cells T (SV.rens τ pr cs)
  | .row T sz len cols tail => .row T sz (len.prime pr) (cols.map (Col.ren pr)) (tail.map (SV.rens τ pr))
  | .map m ix kk sz known => .map m (ix.prime pr) kk (sz.prime pr) (knownRen τ pr known)
  | .ar T ks e => .ar T ks (e.prime pr)
  | .dmp kk ag ks e _ => .dmp kk ag ks (e.prime pr) none
  | .bag T ks e => .bag T ks (e.prime pr)
  | .chan c => .chan (c.prime pr)
  | o => o
mutual
def SV.renOk (σ τ : Nat -> Nat) (okv : Nat -> Bool) : SV -> Bool
  | .ptr n _ => Nat.beq (σ (τ n)) n
  | .sl n _ _ _ => Nat.beq (σ (τ n)) n
  | .map n => Nat.beq (σ (τ n)) n
  | .chan n => Nat.beq (σ (τ n)) n
  | .val c _ => okv c
  | .fn _ a c => SV.renOks σ τ okv a && SV.renOks σ τ okv c
  | .ifc _ x => SV.renOk σ τ okv x
  | .agg l => SV.renOks σ τ okv l
  | .tup l => SV.renOks σ τ okv l
  | .flt _ => false
  | _ => true
def SV.renOks (σ τ : Nat -> Nat) (okv : Nat -> Bool) : List SV -> Bool
  | [] => true
  | x :: l => SV.renOk σ τ okv x && SV.renOks σ τ okv l
end
section
variable {e e' : Env} {pr : Nat -> E} {okv : Nat -> Bool} {σ τ : Nat -> Nat}
mutual
theorem SV.ren_ent (hn : Nexts e' e pr okv) : ∀ {x : SV}, x.renOk σ τ okv = true -> SV.ent e e' σ x (x.ren τ pr) := by
  intro x h; have hp : ∀ a : E, a.den e = (a.prime pr).den e' := fun a => (E.prime_den hn a).symm; cases x with
  | int k a => exact ⟨rfl, by rw [hp]⟩
  | bool a => show _ = _; rw [hp]
  | str a => show _ = _; rw [hp]
  | val c i => show e.val c _ = e'.val c _; rw [hn.val c h, hp]
  | dsl ks a => exact ⟨rfl, by rw [hp]⟩
  | dslx ks a => exact ⟨rfl, by rw [hp]⟩
  | ptr n o =>
    refine ⟨(Nat.eq_of_beq_eq_true h).symm, ?_⟩; cases o with
    | c j => rfl
    | el i sz j => simp only [Off.den, Off.pri, hp]
  | sl n sz lo len => exact ⟨(Nat.eq_of_beq_eq_true h).symm, rfl, by rw [hp], by rw [hp]⟩
  | map n => exact (Nat.eq_of_beq_eq_true h).symm
  | chan n => exact (Nat.eq_of_beq_eq_true h).symm
  | fn f a c =>
    simp only [SV.renOk, Bool.and_eq_true] at h; exact ⟨rfl, SV.rens_ent hn h.1, SV.rens_ent hn h.2⟩
  | ifc t x => exact ⟨rfl, SV.ren_ent hn (x := x) h⟩
  | agg l => exact SV.rens_ent hn (l := l) h
  | tup l => exact SV.rens_ent hn (l := l) h
  | flt f => cases h
  | dptr ks a i j => exact ⟨rfl, rfl, fun m => by rw [hp, hp]⟩
  | apt T i j => exact ⟨rfl, rfl, by rw [hp]⟩
  | cst v => exact (rfl : _ = _)
  | _ => trivial
theorem SV.rens_ent (hn : Nexts e' e pr okv) : ∀ {l : List SV}, SV.renOks σ τ okv l = true -> SV.ents e e' σ l (SV.rens τ pr l) := by
  intro l h; cases l with
  | nil => trivial
  | cons x l =>
    simp only [SV.renOks, Bool.and_eq_true] at h; exact ⟨SV.ren_ent hn h.1, SV.rens_ent hn h.2⟩
end
def colsRenOk (okv : Nat -> Bool) : List Col -> Bool
  | [] => true
  | .val c :: r => okv c && colsRenOk okv r
  | _ :: r => colsRenOk okv r
theorem colsRenOk_mem {c : Nat} : ∀ {l : List Col}, colsRenOk okv l = true -> Col.val c ∈ l -> okv c = true
  | [], _, h => by cases h
  | col :: r, ho, h => by
    rcases List.mem_cons.1 h with e | h
    . subst e; simp only [colsRenOk, Bool.and_eq_true] at ho; exact ho.1
    . refine colsRenOk_mem (l := r) ?_ h; cases col <;> simp only [colsRenOk, Bool.and_eq_true] at ho <;> first | exact ho.2 | exact ho
theorem col_ren (hn : Nexts e' e pr okv) {l : List Col} (ho : colsRenOk okv l = true) {col : Col} (hm : col ∈ l) (i : Int) : SV.ent e e' σ (col.at (.il i)) ((col.ren pr).at (.il i)) := by
  have hp : ∀ a : E, a.den e = (a.prime pr).den e' := fun a => (E.prime_den hn a).symm; cases col with
  | int k c => exact ⟨rfl, by simp only [E.den, hn.fn]⟩
  | bool c => show _ = _; simp only [E.den, hn.fn]
  | str c => show _ = _; simp only [E.den, hn.fn]
  | val c => show e.val c _ = e'.val c _; rw [hn.val c (colsRenOk_mem ho hm)]; rfl
  | dsl ks c => exact ⟨rfl, by simp only [E.den, hn.fn]⟩
  | tc k x j => exact dcell_ent (by simp only [E.den, hp])
def SObj.renOk (σ τ : Nat -> Nat) (pr : Nat -> E) (okv : Nat -> Bool) : SObj -> Option (List Ob)
  | .cells _ cs => cond (SV.renOks σ τ okv cs) (some []) none
  | .row _ sz len cols tail => cond (tail.isEmpty && colsRenOk okv cols && Nat.ble cols.length sz) (some [.e (.o2 .le (.il 0) (len.prime pr))]) none
  | .map _ _ _ _ known => cond known.isEmpty (some []) none
  | .dmp .. => some []
  | .bag .. => some []
  | .chan _ => some []
  | _ => none
theorem SObj.ren_ent (hn : Nexts e' e pr okv) {o : SObj} {l : List Ob} (h : o.renOk σ τ pr okv = some l) (ht : AllT e' l) : SObj.ent e e' σ o (o.ren τ pr) /\ o.owner = true /\ (o.ren τ pr).owner = true := by
  have hp : ∀ a : E, a.den e = (a.prime pr).den e' := fun a => (E.prime_den hn a).symm; cases o with
  | cells T cs =>
    simp only [SObj.renOk] at h; cases hc : SV.renOks σ τ okv cs with
    | false => rw [hc] at h; cases h
    | true => exact ⟨⟨rfl, SV.rens_ent hn hc⟩, rfl, rfl⟩
  | row T sz len cols tail =>
    simp only [SObj.renOk] at h; cases hc : (tail.isEmpty && colsRenOk okv cols && Nat.ble cols.length sz) with
    | false => rw [hc] at h; cases h
    | true =>
      rw [hc] at h; simp only [cond_true, Option.some.injEq] at h; subst h; simp only [Bool.and_eq_true, List.isEmpty_iff] at hc; obtain ⟨⟨rfl, hc2⟩, hc3⟩ := hc; have h0 : ((E.o2 .le (.il 0) (len.prime pr)).den e').B = true := ht _ (List.mem_cons_self ..); rw [B_le] at h0; have h0 := of_decide_eq_true h0; rw [<- hp] at h0; refine ⟨⟨rfl, rfl, rfl, h0, by rw [hp]; simp, by rw [List.length_map]; exact Nat.le_of_ble_eq_true hc3, fun j col' hj => ⟨fun i hi => ?_, fun k t hk => by simp at hk⟩⟩, rfl, rfl⟩
      rw [List.getElem?_map, Option.map_eq_some_iff] at hj; obtain ⟨col, h1, rfl⟩ := hj; exact ⟨col, h1, col_ren hn hc2 (List.mem_of_getElem? h1) i⟩
  | map m ix kk sz known =>
    simp only [SObj.renOk] at h; cases hc : known.isEmpty with
    | false => rw [hc] at h; cases h
    | true =>
      have hk : known = [] := by simpa using hc
      subst hk; refine ⟨⟨rfl, fun p hm => (by cases hm), by rw [hp], [], [], rfl, rfl, fun k _ => ?_⟩, rfl, rfl⟩
      rw [hp]
      congr 1
      unfold res; split
      . rfl
      . rw [hn.mp]
  | dmp kk ag ks x it => exact ⟨⟨rfl, rfl, rfl, by rw [hp], fun m hm => by cases hm⟩, rfl, rfl⟩
  | bag T ks a => exact ⟨⟨rfl, rfl, by rw [hp]⟩, rfl, rfl⟩
  | chan c => exact ⟨(by show _ = _; rw [hp]), rfl, rfl⟩
  | _ => cases h
end
def vcsP : List Ob -> Prog Unit
  | [] => .ret ()
  | o :: r => do vcO o; vcsP r
theorem run_vcsP {env : Env} : ∀ {l : List Ob} {h h' : Heap} {u : Unit}, (vcsP l).Run env h u h' ↔ AllT env l /\ h = h'
  | [], h, h', u => by simp only [vcsP, run_ret]; exact ⟨fun e => ⟨fun x hx => (by cases hx), e.2⟩, fun e => ⟨trivial, e.2⟩⟩
  | o :: r, h, h', u => by
    simp only [vcsP, run_bind, run_vcO, run_vcsP]; constructor
    . rintro ⟨_, _, ⟨h1, rfl⟩, h2, rfl⟩; exact ⟨fun x hx => by rcases List.mem_cons.1 hx with rfl | hx; exact h1; exact h2 x hx, rfl⟩
    . rintro ⟨h1, rfl⟩; exact ⟨(), _, ⟨h1 o (List.mem_cons_self ..), rfl⟩, fun x hx => h1 x (List.mem_cons_of_mem _ hx), rfl⟩
theorem run_get {α : Type} {env : Env} {n : Nat} {k : SObj -> Prog α} {h h' : Heap} {b : α} : (Prog.get n k).Run env h b h' ↔ ∃ o, hget h n = some o /\ (k o).Run env h b h' := Iff.rfl
theorem passP_heap {env : Env} : ∀ {hp : CHeap} {l r : List (Nat × Nat)} {h h' : Heap}, (passP hp l).Run env h r h' -> h = h'
  | [], l, r, h, h', he => by simp only [passP, run_ret] at he; exact he.2
  | (m, o) :: hp, l, r, h, h', he => by
    unfold passP at he; split at he
    . exact passP_heap he
    . obtain ⟨x, _, h2⟩ := run_get.1 he; exact passP_heap h2
theorem autoP_heap {env : Env} {sl : List SV} {H : Head} {r : List (Nat × Nat)} {h h' : Heap} (he : (autoP sl H).Run env h r h') : h = h' := by
  simp only [autoP, run_bind] at he; obtain ⟨_, _, h1, _, _, h2, h3⟩ := he; rw [passP_heap h1, passP_heap h2, passP_heap h3]
def entHpP (pr : Nat -> E) (okv : Nat -> Bool) (σ : Nat -> Nat) : CHeap -> Prog Unit
  | [] => .ret ()
  | (m, o') :: r => do
    let o <- getN (tgtN σ o' m)
    must (placed o || (o.isAr && o'.isAr)) "entry: an object that has no place"
    let es <- ofOpt (objC pr okv σ o o') "entry: an object"
    vcsP es
    entHpP pr okv σ r
theorem entHpP_ok {env e : Env} {pr : Nat -> E} {okv : Nat -> Bool} (hn : Nexts env e pr okv) {σ : Nat -> Nat} {S : List Nat} : ∀ {hp : CHeap} {h h' : Heap} {u : Unit}, (entHpP pr okv σ hp).Run env h u h' -> (∀ x ∈ hp, x.2.owner = true \/ x.2.isAr = true -> tgtN σ x.2 x.1 ∈ S) ->
    h = h' /\ entHpF env e σ h S hp /\ ∀ x ∈ hp, x.2.isAr = false -> ∃ o, hget h (σ x.1) = some o /\ placed o = true
  | [], h, h', u, he, _ => by simp only [entHpP, run_ret] at he; exact ⟨he.2, trivial, fun x hx => by cases hx⟩
  | (m, o') :: r, h, h', u, he, hS => by
    simp only [entHpP, run_bind, run_getN, run_must, run_ofOpt, run_vcsP] at he; obtain ⟨o, _, ⟨ho, rfl⟩, _, _, ⟨hpl, rfl⟩, es, _, ⟨hes, rfl⟩, _, _, ⟨ht, rfl⟩, he⟩ := he; obtain ⟨rfl, h2, h3⟩ := entHpP_ok hn he (fun x hx => hS x (List.mem_cons_of_mem _ hx)); refine ⟨rfl, ⟨?_, h2⟩, fun x hx => ?_⟩
    . rw [ho]; exact ⟨objC_ok hn hes ht, fun ho' => hS _ (List.mem_cons_self ..) ho'⟩
    . rcases List.mem_cons.1 hx with rfl | hx
      . intro hna; rw [show ((m, o').2).isAr = o'.isAr from rfl] at hna; unfold tgtN at ho; rw [hna] at ho hpl; rw [Bool.and_false, Bool.or_false] at hpl; exact ⟨o, ho, hpl⟩
      . exact h3 x hx
def decP : List (E × Nat) -> Prog Nat
  | [] => .fail "no exit"
  | (c, ν) :: r => do
    let b <- decE c
    match b with
    | true => return ν
    | false => decP r
theorem decP_heap {env : Env} : ∀ {l : List (E × Nat)} {ν : Nat} {h h' : Heap}, (decP l).Run env h ν h' -> h = h'
  | [], _, _, _, he => he.elim
  | (c, m) :: r, ν, h, h', he => by
    simp only [decP, run_bind, run_decE] at he; obtain ⟨b, _, ⟨_, rfl⟩, he⟩ := he; cases b with
    | true => simp only [run_pure] at he; exact he.2
    | false => exact decP_heap he
theorem decP_ok {env e : Env} {pr : Nat -> E} {okv : Nat -> Bool} (hn : Nexts env e pr okv) : ∀ {l : List (E × Nat)} {ν m : Nat} {h h' : Heap} {xs : List Ob}, (decP (l.map fun x => (x.1.prime pr, x.2))).Run env h ν h' -> LoopY.exitObl l m = some xs -> AllT e xs -> ν = m
  | [], _, _, _, _, _, he, _, _ => he.elim
  | (c, ν0) :: r, ν, m, h, h', xs, he, hx, ht => by
    simp only [List.map_cons, decP, run_bind, run_decE] at he; obtain ⟨b, _, ⟨hb, rfl⟩, he⟩ := he; rw [E.prime_den hn] at hb; unfold LoopY.exitObl at hx; cases hm : Nat.beq ν0 m with
    | true =>
      rw [hm] at hx; simp only [cond_true, Option.some.injEq] at hx; obtain rfl := Nat.eq_of_beq_eq_true hm; cases b with
      | true => simp only [run_pure] at he; exact he.1.symm
      | false =>
        exfalso
        have : (c.den e).B = true := by
          cases hs : c.same (.bl true) with
          | true => rw [E.same_eq hs]; rfl
          | false =>
            rw [hs] at hx; subst hx; exact ht _ (List.mem_singleton.2 rfl)
        rw [hb] at this; cases this
    | false =>
      rw [hm] at hx; simp only [cond_false, Option.map_eq_some_iff] at hx; obtain ⟨ys, hy, rfl⟩ := hx; have hc : ((notE c).den e).B = true := ht _ (List.mem_cons_self ..); rw [B_notE, hb] at hc; cases b with
      | true => cases hc
      | false => exact decP_ok hn he hy fun x hx => ht x (List.mem_cons_of_mem _ hx)
def addE (ps : List Nat) (a b : E) (θ : List (Nat × E)) : List (Nat × E) :=
  match b with
  | .v p => cond (inL p ps && !(θ.any fun x => Nat.beq x.1 p)) ((p, a) :: θ) θ
  | _ => θ
mutual
def uni (ps : List Nat) : SV -> SV -> List (Nat × E) -> List (Nat × E)
  | .int _ a, .int _ b, θ => addE ps a b θ
  | .bool a, .bool b, θ => addE ps a b θ
  | .str a, .str b, θ => addE ps a b θ
  | .dsl _ a, .dsl _ b, θ => addE ps a b θ
  | .apt _ a _, .apt _ b _, θ => addE ps a b θ
  | .dptr _ a i _, .dptr _ b k _, θ => addE ps i k (addE ps a b θ)
  | .dslx _ a, .dsl _ b, θ => addE ps a b θ
  | .dslx _ a, .dslx _ b, θ => addE ps a b θ
  | .nilsl, .dsl _ b, θ => addE ps (.il 0) b θ
  | .sl _ _ a c, .sl _ _ b d, θ => addE ps c d (addE ps a b θ)
  | .ifc _ x, .ifc _ y, θ => uni ps x y θ
  | .agg a, .agg b, θ => unis ps a b θ
  | .tup a, .tup b, θ => unis ps a b θ
  | .fn _ a c, .fn _ b d, θ => unis ps c d (unis ps a b θ)
  | _, _, θ => θ
def unis (ps : List Nat) : List SV -> List SV -> List (Nat × E) -> List (Nat × E)
  | x :: a, y :: b, θ => unis ps a b (uni ps x y θ)
  | _, _, θ => θ
end
def uniC (ps : List Nat) : List Col -> List Col -> List (Nat × E) -> List (Nat × E)
  | .tc _ a _ :: l, .tc _ b _ :: m, θ => uniC ps l m (addE ps a b θ)
  | _ :: l, _ :: m, θ => uniC ps l m θ
  | _, _, θ => θ
def uniO (ps : List Nat) : SObj -> SObj -> List (Nat × E) -> List (Nat × E)
  | .cells _ a, .cells _ b, θ => unis ps a b θ
  | .row _ _ a c _, .row _ _ b d _, θ => uniC ps c d (addE ps a b θ)
  | .inp _ a _, .inp _ b _, θ => addE ps a b θ
  | .map _ a _ c _, .map _ b _ d _, θ => addE ps c d (addE ps a b θ)
  | .ar _ _ a, .ar _ _ b, θ => addE ps a b θ
  | .dmp _ _ _ a _, .dmp _ _ _ b _, θ => addE ps a b θ
  | .itr _ _ a, .itr _ _ b, θ => addE ps a b θ
  | .bag _ _ a, .bag _ _ b, θ => addE ps a b θ
  | .map _ _ _ _ _, .dmp _ _ _ b _, θ => addE ps (.il 0) b θ
  | .chan a, .chan b, θ => addE ps a b θ
  | _, _, θ => θ
def uniOv (ps : List Nat) (sl : List SV) : List (Nat × SV) -> List (Nat × E) -> List (Nat × E)
  | [], θ => θ
  | (j, y) :: r, θ => uniOv ps sl r (match nth sl j with | some x => uni ps x y θ | none => θ)
def uniP (ps : List Nat) (σ : Nat -> Nat) : CHeap -> List (Nat × E) -> Prog (List (Nat × E))
  | [], θ => .ret θ
  | (m, o') :: r, θ => .get (tgtN σ o' m) fun o => uniP ps σ r (uniO ps o o' θ)
theorem uniP_heap {env : Env} {ps : List Nat} {σ : Nat -> Nat} : ∀ {hp : CHeap} {θ r : List (Nat × E)} {h h' : Heap}, (uniP ps σ hp θ).Run env h r h' -> h = h'
  | [], θ, r, h, h', he => by simp only [uniP, run_ret] at he; exact he.2
  | (m, o) :: hp, θ, r, h, h', he => by
    unfold uniP at he; obtain ⟨x, _, h2⟩ := run_get.1 he; exact uniP_heap h2
theorem hold_append_iff {env : Env} {a b : Facts} : Facts.Hold env (a ++ b) ↔ Facts.Hold env a /\ Facts.Hold env b :=
  ⟨fun h => ⟨fun e t hm => h e t (List.mem_append_left _ hm), fun e t hm => h e t (List.mem_append_right _ hm)⟩, fun h => hold_append h.1 h.2⟩
def frzInP (kd : TypeId -> Option DKs) : List Nat -> List SV -> Prog (List SV)
  | [], sl => .ret sl
  | n :: r, sl => do
    let o <- getN n
    let x <- ofOpt (frzG kd o) "entry: a row that is no data"
    vcsP x.2.2.2.2
    putN n .gone
    frzInP kd r (SV.frzs ⟨n, x.2.1, x.2.2.2.1, x.1, x.2.2.1⟩ sl)
theorem frzInP_ok {env : Env} {kd : TypeId -> Option DKs} {A : Anchor} {a : Act} {nx : Nat} {w : World} {df : List (FuncId × List SV)} : ∀ {l : List Nat} {sl sl' : List SV} {h h' : Heap} {ρ : PMap}, (frzInP kd l sl).Run env h sl' h' -> Sat env A ρ ⟨sl, df⟩ h nx a w -> ∃ ρ', ρ.le ρ' /\ Sat env A ρ' ⟨sl', df⟩ h' nx a w
  | [], sl, sl', h, h', ρ, hr, hs => by
    simp only [frzInP, run_ret] at hr; obtain ⟨rfl, rfl⟩ := hr; exact ⟨ρ, PMap.le_refl ρ, hs⟩
  | n :: r, sl, sl', h, h', ρ, hr, hs => by
    simp only [frzInP, run_bind, run_getN, run_ofOpt, run_vcsP, run_putN] at hr; obtain ⟨o, _, ⟨ho, rfl⟩, x, _, ⟨hx, rfl⟩, _, _, ⟨ht, rfl⟩, _, _, rfl, hr⟩ := hr; obtain ⟨ks, sz, e, len, obs⟩ := x; obtain ⟨ρ1, hle, hpl, HS, hv, hleft⟩ := hs.hs.frzG ho hx ht; obtain ⟨ρ2, h2, hs2⟩ := frzInP_ok hr (ρ := ρ1) ⟨HS, SV.frzs_ok (F := ⟨n, sz, len, ks, e⟩) hle hv hs.sl, hs.df.mono hle, fun m p hp => hs.nx m p (by rw [<- show ρ1 m = ρ m from congrFun hpl m]; exact hp)⟩
    exact ⟨ρ2, PMap.le_trans hle h2, hs2⟩
theorem frzInP_len {env : Env} {kd : TypeId -> Option DKs} : ∀ {l : List Nat} {sl sl' : List SV} {h h' : Heap}, (frzInP kd l sl).Run env h sl' h' -> sl'.length = sl.length
  | [], sl, sl', h, h', hr => by simp only [frzInP, run_ret] at hr; rw [hr.1]
  | n :: r, sl, sl', h, h', hr => by
    simp only [frzInP, run_bind, run_getN, run_ofOpt, run_vcsP, run_putN] at hr; obtain ⟨o, _, ⟨ho, rfl⟩, x, _, ⟨hx, rfl⟩, _, _, ⟨ht, rfl⟩, _, _, rfl, hr⟩ := hr; rw [frzInP_len hr, SV.frzs_length]
theorem HSat.swapF {env : Env} {w0 : Anchor} {ρ : PMap} {h : Heap} {w : World} {F : FzS} (HS : HSat env w0 ρ h w) (hv : FzSays env ρ ρ F.n F.sz F.len F.ks F.e) {n : Nat} {o : SObj} (hn : hget h n = some o) : HSat env w0 ρ (hput h n (o.frz F)) w := by
  have back2 : ∀ m o', hget (hput h n (o.frz F)) m = some o' -> o'.owner = true -> ∃ o0, hget h m = some o0 /\ o0.owner = true := fun m o' hm ho' => by
    rw [hget_hput] at hm
    by_cases e : m = n
    . rw [if_pos e] at hm; injection hm with hm; subst hm; rw [SObj.frz_owner] at ho'; exact ⟨o, by rw [e]; exact hn, ho'⟩
    . rw [if_neg e] at hm; exact ⟨o', hm, ho'⟩
  refine ⟨HS.below, fun m o' hm => ?_, fun m k x y p p' hm hk hx hy hp hp' he => ?_, ?_, HS.fz.at_, fun b x m o' p hb hm ho' hp => ?_, HS.fz.old⟩
  . rw [hget_hput] at hm
    by_cases e : m = n
    . rw [if_pos e] at hm; injection hm with hm; subst hm; rw [e]; exact SObj.frz_ok (PMap.le_refl ρ) rfl hv (HS.objs n o hn)
    . rw [if_neg e] at hm; exact HS.objs m o' hm
  . obtain ⟨x0, a1, a2⟩ := back2 m x hm hx; obtain ⟨y0, b1, b2⟩ := back2 k y hk hy; exact HS.inj m k x0 y0 p p' a1 b1 a2 b2 hp hp' he
  . refine HS.ar.keep (Fz.le_refl _) rfl (fun m T ks' e' hm => ?_) (fun T ks' e' hm => ⟨ks', e', ?_⟩) (fun _ _ _ _ _ _ _ _ => rfl) (Nat.le_refl _) (fun _ h => h) rfl (fun m o' q' hm ho' hq => .inl ?_) (fun _ _ _ _ _ _ _ _ h => h)
    . rw [hget_hput] at hm
      by_cases e : m = n
      . rw [if_pos e] at hm; injection hm with hm; rw [e, hn]; cases o <;> first | (rw [<- hm]; rfl) | (cases hm; done)
      . rw [if_neg e] at hm; exact hm
    . rw [hget_hput]
      by_cases e : arN T = n
      . rw [if_pos e]; rw [e, hn] at hm; injection hm with hm; rw [hm]; rfl
      . rw [if_neg e]; exact hm
    . obtain ⟨y0, b1, b2⟩ := back2 m o' hm ho'; exact ⟨m, y0, q', b1, b2, hq, rfl⟩
  . obtain ⟨y0, b1, b2⟩ := back2 m o' hm ho'; exact HS.fz.free b x m y0 p hb b1 b2 hp
theorem leftG_not {sz : Nat} {len e : E} {ks : DKs} : (leftG sz len ks e).owner = false := by
  unfold leftG; cases Nat.blt 0 sz <;> rfl
theorem leftG_notA {sz : Nat} {len e : E} {ks : DKs} : (leftG sz len ks e).isAr = false := by
  unfold leftG; cases Nat.blt 0 sz <;> rfl
theorem HSat.putLeft {env : Env} {w0 : Anchor} {ρ : PMap} {h : Heap} {w : World} {n sz : Nat} {len e : E} {ks : DKs} (HS : HSat env w0 ρ (hput h n .gone) w) (hr : (leftG sz len ks e).Rel env w0 ρ n w) : HSat env w0 ρ (hput h n (leftG sz len ks e)) w := by
  have back2 : ∀ m o', hget (hput h n (leftG sz len ks e)) m = some o' -> o'.owner = true -> hget (hput h n .gone) m = some o' := fun m o' hm ho' => by
    rw [hget_hput] at hm ⊢
    by_cases e1 : m = n
    . rw [if_pos e1] at hm; injection hm with hm; subst hm; rw [leftG_not] at ho'; cases ho'
    . rw [if_neg e1] at hm ⊢; exact hm
  refine ⟨HS.below, fun m o' hm => ?_, fun m k x y p p' hm hk hx hy hp hp' he => HS.inj m k x y p p' (back2 m x hm hx) (back2 k y hk hy) hx hy hp hp' he, ?_, HS.fz.at_, fun b x m o' p hb hm ho' hp => HS.fz.free b x m o' p hb (back2 m o' hm ho') ho' hp, HS.fz.old⟩
  . by_cases e1 : m = n
    . rw [hget_hput, if_pos e1] at hm; injection hm with hm; subst hm; rw [e1]; exact hr
    . exact HS.objs m o' (by rw [hget_hput, if_neg e1] at hm ⊢; exact hm)
  . have g : hget (hput h n .gone) n = some .gone := by rw [hget_hput, if_pos rfl]
    have e0 : hput (hput h n .gone) n (leftG sz len ks e) = hput h n (leftG sz len ks e) := by
      funext k
      show (if k = n then _ else if k = n then _ else _) = (if k = n then _ else _)
      by_cases e1 : k = n <;> simp [e1]
    obtain ⟨a1, a2⟩ := ar_hput (x := leftG sz len ks e) g rfl leftG_notA; rw [e0] at a1 a2; exact HS.ar.keep (Fz.le_refl _) rfl a1 (fun T ks' e' hm => ⟨ks', e', a2 _ _ _ hm⟩) (fun _ _ _ _ _ _ _ _ => rfl) (Nat.le_refl _) (fun _ h => h) rfl (fun m o' q' hm ho' hq => .inl ⟨m, o', q', back2 m o' hm ho', ho', hq, rfl⟩) (fun _ _ _ _ _ _ _ _ h => h)
theorem SV.Rel.pl_eq_sl {env : Env} {ρ ρ' : PMap} (h : ρ'.pl = ρ.pl) {n s : Nat} {lo l : E} {v : Value} (hr : (SV.sl n s lo l).Rel env ρ' v) : (SV.sl n s lo l).Rel env ρ v := by
  have e : ∀ m, ρ' m = ρ m := fun m => congrFun h m; simp only [SV.Rel, e] at hr ⊢; exact hr
theorem SV.Rel.pl_eq_ptr {env : Env} {ρ ρ' : PMap} (h : ρ'.pl = ρ.pl) {n j : Nat} {v : Value} (hr : (SV.ptr n (.c j)).Rel env ρ' v) : (SV.ptr n (.c j)).Rel env ρ v := by
  have e : ∀ m, ρ' m = ρ m := fun m => congrFun h m; simp only [SV.Rel, e] at hr ⊢; exact hr
def frzInOP (kd : TypeId -> Option DKs) (n : Nat) : List Nat -> List SV -> Prog (List SV)
  | [], sl => .ret sl
  | m :: r, sl => do
    let o <- getN m
    let x <- ofOpt (frzG kd o) "entry: a row in cells that is no data"
    vcsP x.2.2.2.2
    putN m (leftG x.2.1 x.2.2.2.1 x.1 x.2.2.1)
    let y <- getN n
    putN n (y.frz ⟨m, x.2.1, x.2.2.2.1, x.1, x.2.2.1⟩)
    frzInOP kd n r (SV.frzs ⟨m, x.2.1, x.2.2.2.1, x.1, x.2.2.1⟩ sl)
theorem frzInOP_ok {env : Env} {kd : TypeId -> Option DKs} {A : Anchor} {a : Act} {nx : Nat} {w : World} {df : List (FuncId × List SV)} {n : Nat} : ∀ {l : List Nat} {sl sl' : List SV} {h h' : Heap} {ρ : PMap}, (frzInOP kd n l sl).Run env h sl' h' -> Sat env A ρ ⟨sl, df⟩ h nx a w -> ∃ ρ', ρ.le ρ' /\ Sat env A ρ' ⟨sl', df⟩ h' nx a w
  | [], sl, sl', h, h', ρ, hr, hs => by
    simp only [frzInOP, run_ret] at hr; obtain ⟨rfl, rfl⟩ := hr; exact ⟨ρ, PMap.le_refl ρ, hs⟩
  | m :: r, sl, sl', h, h', ρ, hr, hs => by
    simp only [frzInOP, run_bind, run_getN, run_ofOpt, run_vcsP, run_putN] at hr; obtain ⟨o, _, ⟨ho, rfl⟩, x, _, ⟨hx, rfl⟩, _, _, ⟨ht, rfl⟩, _, _, rfl, y, _, ⟨hy, rfl⟩, _, _, rfl, hr⟩ := hr; obtain ⟨ks, sz, e, len, obs⟩ := x; obtain ⟨ρ1, hle, hpl, HS, hv, hleft⟩ := hs.hs.frzG ho hx ht; have hv1 : FzSays env ρ1 ρ1 m sz len ks e := ⟨fun h0 v hr => hv.1 h0 v (SV.Rel.pl_eq_sl hpl hr), fun h0 j v hr => hv.2 h0 j v (SV.Rel.pl_eq_ptr hpl hr)⟩; have HS1 := HSat.swapF (F := ⟨m, sz, len, ks, e⟩) (HSat.putLeft HS hleft) hv1 hy; obtain ⟨ρ2, h2, hs2⟩ := frzInOP_ok hr (ρ := ρ1) ⟨HS1, SV.frzs_ok (F := ⟨m, sz, len, ks, e⟩) hle hv hs.sl, hs.df.mono hle, fun m p hp => hs.nx m p (by rw [<- show ρ1 m = ρ m from congrFun hpl m]; exact hp)⟩
    exact ⟨ρ2, PMap.le_trans hle h2, hs2⟩
theorem frzInOP_len {env : Env} {kd : TypeId -> Option DKs} {n : Nat} : ∀ {l : List Nat} {sl sl' : List SV} {h h' : Heap}, (frzInOP kd n l sl).Run env h sl' h' -> sl'.length = sl.length
  | [], sl, sl', h, h', hr => by simp only [frzInOP, run_ret] at hr; rw [hr.1]
  | m :: r, sl, sl', h, h', hr => by
    simp only [frzInOP, run_bind, run_getN, run_ofOpt, run_vcsP, run_putN] at hr; obtain ⟨o, _, ⟨ho, rfl⟩, x, _, ⟨hx, rfl⟩, _, _, ⟨ht, rfl⟩, _, _, rfl, y, _, ⟨hy, rfl⟩, _, _, rfl, hr⟩ := hr; rw [frzInOP_len hr, SV.frzs_length]
def frzHpP (kd : TypeId -> Option DKs) : List (Nat × SObj) -> List SV -> Prog (List SV)
  | [], sl => .ret sl
  | (n, o') :: r, sl => do
    let o <- getN n
    let sl1 <- frzInOP kd n (dedupN (wantO o o')) sl
    frzHpP kd r sl1
theorem frzHpP_ok {env : Env} {kd : TypeId -> Option DKs} {A : Anchor} {a : Act} {nx : Nat} {w : World} {df : List (FuncId × List SV)} : ∀ {l : List (Nat × SObj)} {sl sl' : List SV} {h h' : Heap} {ρ : PMap}, (frzHpP kd l sl).Run env h sl' h' -> Sat env A ρ ⟨sl, df⟩ h nx a w -> ∃ ρ', ρ.le ρ' /\ Sat env A ρ' ⟨sl', df⟩ h' nx a w
  | [], sl, sl', h, h', ρ, hr, hs => by
    simp only [frzHpP, run_ret] at hr; obtain ⟨rfl, rfl⟩ := hr; exact ⟨ρ, PMap.le_refl ρ, hs⟩
  | (n, o') :: r, sl, sl', h, h', ρ, hr, hs => by
    simp only [frzHpP, run_bind, run_getN] at hr; obtain ⟨o, _, ⟨ho, rfl⟩, sl1, h1, g1, g2⟩ := hr; obtain ⟨ρ1, l1, s1⟩ := frzInOP_ok g1 hs; obtain ⟨ρ2, l2, s2⟩ := frzHpP_ok g2 s1; exact ⟨ρ2, PMap.le_trans l1 l2, s2⟩
theorem frzHpP_len {env : Env} {kd : TypeId -> Option DKs} : ∀ {l : List (Nat × SObj)} {sl sl' : List SV} {h h' : Heap}, (frzHpP kd l sl).Run env h sl' h' -> sl'.length = sl.length
  | [], sl, sl', h, h', hr => by simp only [frzHpP, run_ret] at hr; rw [hr.1]
  | (n, o') :: r, sl, sl', h, h', hr => by
    simp only [frzHpP, run_bind, run_getN] at hr; obtain ⟨o, _, ⟨ho, rfl⟩, sl1, h1, g1, g2⟩ := hr; rw [frzHpP_len g2, frzInOP_len g1]
def treeOf : SObj -> Option E
  | .dmp _ _ _ e _ => some e
  | .map _ _ _ (.il 0) [] => some (.il 0)
  | _ => none
def pinP (kd : TypeId -> Option DKs) (sl : List SV) : List (Nat × Nat) -> List (Nat × E) -> Prog (List (Nat × E))
  | [], θ => .ret θ
  | (p, j) :: r, θ =>
    match nth sl j with
    | some .nilsl => pinP kd sl r ((p, .il 0) :: θ)
    | some (.dsl _ e) => pinP kd sl r ((p, e) :: θ)
    | some (.sl n _ _ _) => .get n fun o => pinP kd sl r (match frzG kd o with | some x => (p, x.2.2.1) :: θ | none => θ)
    | some (.map n) => .get n fun o => pinP kd sl r (match treeOf o with | some e => (p, e) :: θ | none => θ)
    | _ => pinP kd sl r θ
theorem pinP_heap {env : Env} {kd : TypeId -> Option DKs} {sl : List SV} : ∀ {l : List (Nat × Nat)} {θ r : List (Nat × E)} {h h' : Heap}, (pinP kd sl l θ).Run env h r h' -> h = h'
  | [], θ, r, h, h', he => by simp only [pinP, run_ret] at he; exact he.2
  | (p, j) :: l, θ, r, h, h', he => by
    unfold pinP at he; split at he
    . exact pinP_heap he
    . exact pinP_heap he
    . obtain ⟨x, _, h2⟩ := run_get.1 he; exact pinP_heap h2
    . obtain ⟨x, _, h2⟩ := run_get.1 he; exact pinP_heap h2
    . exact pinP_heap he
def startN : SV -> Nat -> Option (Nat × Nat)
  | .ptr n (.c o), _ => some (n, o)
  | .ifc _ (.ptr n (.c o)), _ => some (n, o)
  | .fn _ a c, k => match nth (a ++ c) k with | some (.ptr n (.c o)) => some (n, o) | _ => none
  | _, _ => none
def plainE : SV -> Option E
  | .int _ e => some e
  | .str e => some e
  | .bool e => some e
  | .dsl _ e => some e
  | .nilsl => some (.il 0)
  | _ => none
def pathN (kd : TypeId -> Option DKs) : Nat -> Nat -> List Nat -> Prog (Option E)
  | _, _, [] => .ret none
  | n, o, k :: p => .get n fun ob => match ob with
    | .cells _ cs => match nth cs (o + k) with
      | some (.sl m _ _ _) => .get m fun x => .ret (match frzG kd x with | some x => some x.2.2.1 | none => none)
      | some (.map m) => .get m fun x => .ret (treeOf x)
      | some x => match startN x 0 with
        | some (m, q) => pathN kd m q p
        | none => .ret (plainE x)
      | none => .ret none
    | _ => .ret none
theorem pathN_heap {env : Env} {kd : TypeId -> Option DKs} : ∀ {p : List Nat} {n o : Nat} {r : Option E} {h h' : Heap}, (pathN kd n o p).Run env h r h' -> h = h'
  | [], n, o, r, h, h', he => by simp only [pathN, run_ret] at he; exact he.2
  | k :: p, n, o, r, h, h', he => by
    unfold pathN at he; obtain ⟨x, _, h2⟩ := run_get.1 he; split at h2
    . split at h2
      . obtain ⟨y, _, h3⟩ := run_get.1 h2; exact (run_ret.1 h3).2
      . obtain ⟨y, _, h3⟩ := run_get.1 h2; exact (run_ret.1 h3).2
      . split at h2
        . exact pathN_heap h2
        . exact (run_ret.1 h2).2
      . exact (run_ret.1 h2).2
    . exact (run_ret.1 h2).2
def pinHP (kd : TypeId -> Option DKs) (sl : List SV) : List (Nat × Nat × Nat × List Nat) -> List (Nat × E) -> Prog (List (Nat × E))
  | [], θ => .ret θ
  | (p, j, c, path) :: r, θ =>
    match (nth sl j).bind (fun x => startN x c) with
    | some (n, o) => do
      let e <- pathN kd n o path
      match e with
      | some e => pinHP kd sl r ((p, e) :: θ)
      | none => pinHP kd sl r θ
    | none => pinHP kd sl r θ
theorem pinHP_heap {env : Env} {kd : TypeId -> Option DKs} {sl : List SV} : ∀ {l : List (Nat × Nat × Nat × List Nat)} {θ r : List (Nat × E)} {h h' : Heap}, (pinHP kd sl l θ).Run env h r h' -> h = h'
  | [], θ, r, h, h', he => by simp only [pinHP, run_ret] at he; exact he.2
  | (p, j, c, path) :: l, θ, r, h, h', he => by
    unfold pinHP at he; split at he
    . simp only [run_bind] at he; obtain ⟨e, h1, g1, g2⟩ := he; obtain rfl := pathN_heap g1; split at g2
      . exact pinHP_heap g2
      . exact pinHP_heap g2
    . exact pinHP_heap he
def pinA (kd : TypeId -> Option DKs) (sl : List SV) (l : List (Nat × Nat)) (m : List (Nat × Nat × Nat × List Nat)) (θ : List (Nat × E)) : Prog (List (Nat × E)) := do
  let θ1 <- pinP kd sl l θ
  pinHP kd sl m θ1
theorem pinA_heap {env : Env} {kd : TypeId -> Option DKs} {sl : List SV} {l : List (Nat × Nat)} {m : List (Nat × Nat × Nat × List Nat)} {θ r : List (Nat × E)} {h h' : Heap} (he : (pinA kd sl l m θ).Run env h r h') : h = h' := by
  unfold pinA at he; rw [run_bind] at he; obtain ⟨e, h1, g1, g2⟩ := he; obtain rfl := pinP_heap g1; exact pinHP_heap g2
namespace LoopY
def ren1 (D : LoopY) (l : List (Nat × Nat)) (nx k : Nat) : Nat := cond (inL k D.fixed) (sig l nx k) (nx + k)
def isNew (D : LoopY) (x : Nat × SObj) : Bool := x.2.owner && !(inL x.1 D.fixed)
def newsL (D : LoopY) (Hx : Head) (nx : Nat) : List Nat := (Hx.h.filter D.isNew).map fun x => nx + x.1
def notAr (x : Nat × SObj) : Bool := !x.2.isAr
def tlL (D : LoopY) (l : List (Nat × Nat)) (nx : Nat) (Hx : Head) : List (Nat × Nat) := (Hx.h.filter notAr).map fun x => (D.ren1 l nx x.1, x.1)
def backK (D : LoopY) (l : List (Nat × Nat)) (nx : Nat) (n : Nat) : CHeap -> Option Nat
  | [] => none
  | (k, o) :: r => cond (inL k D.fixed && o.owner && Nat.beq (sig l nx k) n) (some k) (D.backK l nx n r)
def updsK (D : LoopY) (l : List (Nat × Nat)) (nx : Nat) (Sa S : List Nat) (Hx : Head) : List (Nat × Option Nat) :=
  Sa.map (fun n => (n, some n)) ++ (S.map (fun n => (n, D.backK l nx n Hx.h)) ++ (Hx.h.filter D.isNew).map fun x => (nx + x.1, some x.1))
def leftO (D : LoopY) (l : List (Nat × Nat)) (θ : List (Nat × E)) (nx : Nat) (Hx : Head) : Option Nat -> SObj
  | none => .gone
  | some k =>
    match cget Hx.h k with
    | some o => o.ren (D.ren1 l nx) (prE θ)
    | none => .gone
def updsL (D : LoopY) (l : List (Nat × Nat)) (θ : List (Nat × E)) (nx : Nat) (Sa S : List Nat) (Hx : Head) : List (Nat × SObj) := (D.updsK l nx Sa S Hx).map fun x => (x.1, D.leftO l θ nx Hx x.2)
def updC (D : LoopY) (l : List (Nat × Nat)) (θ : List (Nat × E)) (nx : Nat) (tl : List (Nat × Nat)) (Hx : Head) : List (Nat × Option Nat) -> Option (List Ob)
  | [] => some []
  | (_, none) :: r => D.updC l θ nx tl Hx r
  | (n, some k) :: r =>
    match cget Hx.h k with
    | some (.ar T _ _) => cond (Nat.beq n k && Nat.beq n (arN T)) (D.updC l θ nx tl Hx r) none
    | some oE => cond (Nat.beq (sig tl Hx.m n) k) (obl2 (oE.renOk (sig tl Hx.m) (D.ren1 l nx) (prE θ) D.okv) (D.updC l θ nx tl Hx r)) none
    | none => none
def arsUp (Sa : List Nat) (us : List (Nat × SObj)) : Bool := Sa.all fun n => us.all fun y => cond (Nat.beq y.1 n) (match y.2 with | .ar T _ _ => Nat.beq n (arN T) | _ => false) true
def arsIn (Sa : List Nat) (c : CHeap) : Bool := c.all fun x => match x.2 with | .ar T _ _ => inL (arN T) Sa | _ => true
theorem arN_inj {a b : Nat} (h : arN a = arN b) : a = b := by unfold arN at h; omega
theorem arsUp_ok {Sa : List Nat} {us : List (Nat × SObj)} (h : arsUp Sa us = true) {T : Nat} (hT : arN T ∈ Sa) {o : SObj} (hm : (arN T, o) ∈ us) : ∃ ks x, o = .ar T ks x := by
  have := List.all_eq_true.1 (List.all_eq_true.1 h _ hT) _ hm; simp only [Nat.beq_refl, cond_true] at this; split at this
  . rename_i T' ks x; have e := arN_inj (Nat.eq_of_beq_eq_true this); subst e; exact ⟨ks, x, rfl⟩
  . cases this
theorem cget_mem {c : CHeap} {n : Nat} {o : SObj} (h : cget c n = some o) : (n, o) ∈ c := by
  induction c with
  | nil => cases h
  | cons y r ih =>
    obtain ⟨k, z⟩ := y; unfold cget at h; cases hb : Nat.beq k n with
    | true => rw [hb] at h; simp only [cond_true, Option.some.injEq] at h; subst h; rw [Nat.eq_of_beq_eq_true hb]; exact List.mem_cons_self ..
    | false => rw [hb] at h; exact List.mem_cons_of_mem _ (ih h)
theorem hputs_has : ∀ {us : List (Nat × SObj)} {h : Heap} {n : Nat}, n ∈ us.map (·.1) -> ∃ o, (n, o) ∈ us /\ hget (hputs us h) n = some o
  | [], _, _, hm => by cases hm
  | (k, x) :: r, h, n, hm => by
    by_cases hr : n ∈ r.map (·.1)
    . obtain ⟨o, h1, h2⟩ := hputs_has (h := hput h k x) hr; exact ⟨o, List.mem_cons_of_mem _ h1, h2⟩
    . simp only [List.map_cons, List.mem_cons] at hm; rcases hm with rfl | hm
      . refine ⟨x, List.mem_cons_self .., ?_⟩; show hget (hputs r (hput h n x)) n = some x
        have key : ∀ {r : List (Nat × SObj)} {h : Heap}, n ∉ r.map (·.1) -> hget (hputs r h) n = hget h n := by
          intro r
          induction r with
          | nil => intro h _; rfl
          | cons y r ih =>
            intro h hn; obtain ⟨k, z⟩ := y; simp only [List.map_cons, List.mem_cons, not_or] at hn; show hget (hputs r (hput h k z)) n = _; rw [ih hn.2, hget_hput, if_neg hn.1]
        rw [key hr, hget_hput, if_pos rfl]
      . exact absurd hm hr
theorem hputs_no {n : Nat} : ∀ {r : List (Nat × SObj)} {h : Heap}, n ∉ r.map (·.1) -> hget (hputs r h) n = hget h n
  | [], _, _ => rfl
  | (k, z) :: r, h, hn => by
    simp only [List.map_cons, List.mem_cons, not_or] at hn; show hget (hputs r (hput h k z)) n = _; rw [hputs_no hn.2, hget_hput, if_neg hn.1]
def outsL (D : LoopY) (l : List (Nat × Nat)) (θ : List (Nat × E)) (nx : Nat) (Hx : Head) : List (Nat × SV) := Hx.ov.map fun x => (x.1, x.2.ren (D.ren1 l nx) (prE θ))
def ovOk (D : LoopY) (l : List (Nat × Nat)) (nx : Nat) (tl : List (Nat × Nat)) (Hx : Head) : Bool :=
  Hx.ov.all (fun x => Nat.blt x.1 D.N && x.2.renOk (sig tl Hx.m) (D.ren1 l nx) D.okv) && allDiff (Hx.ov.map (·.1))
def outOk (D : LoopY) (l : List (Nat × Nat)) (θ : List (Nat × E)) (nx : Nat) (Sa S : List Nat) (Hx : Head) : Bool :=
  Hx.h.all (fun x => headObj x.2) && allDiff ((D.tlL l nx Hx).map (·.2)) && (Hx.h.filter notAr).all (fun x => Nat.blt x.1 Hx.m && (inL x.1 D.fixed || x.2.owner)) && Nat.ble (nx + Hx.m) 500000 && arsUp Sa (D.updsL l θ nx Sa S Hx) && arsIn Sa Hx.h && D.ovOk l nx (D.tlL l nx Hx) Hx
def outP (D : LoopY) (fr : Fr) (l : List (Nat × Nat)) (θ : List (Nat × E)) (nx : Nat) (Sa S : List Nat) (ν : Nat) : Prog (SExit × Fr × Nat) := do
  must (D.outOk l θ nx Sa S (D.hx ν)) "exit: names"
  let es2 <- ofOpt (D.updC l θ nx (D.tlL l nx (D.hx ν)) (D.hx ν) (D.updsK l nx Sa S (D.hx ν))) "exit: objects"
  vcsP es2
  putsP (D.updsL l θ nx Sa S (D.hx ν))
  return (D.exN ν, ⟨setL (D.outsL l θ nx (D.hx ν)) (tops D.js fr.sl), fr.df⟩, nx + (D.hx ν).m)
def lpP (D : LoopY) (fr : Fr) (nx : Nat) : Option (Prog (SExit × Fr × Nat)) :=
  cond ((dfFit fr.df D.dfN && Nat.ble (dfTot D.dfN) 100) && Nat.beq fr.sl.length D.N && Nat.ble D.N 900)
    (cond (D.app fr.sl) (some (do
      let μ <- D.mode fr.sl
      must (D.ok0 μ) "entry: mode"
      let sl0 <- frzInP (kdOf D.kds) (dedupN (wantOv fr.sl (D.hd μ).ov)) fr.sl
      let l <- autoP sl0 (D.hd μ)
      let sl <- frzHpP (kdOf D.kds) ((D.hd μ).h.map fun x => (tgtN (sig l nx) x.2 x.1, x.2)) sl0
      must (allDiff (l.map (·.2)) && l.all (fun x => Nat.blt x.1 (D.hd μ).m) && D.fixed.all (fun k => inL k (((D.hd μ).h.filter notAr).map (·.1))) && (D.hd μ).h.all (fun x => headObj x.2)) "entry: names"
      let θ1 <- pinA (kdOf D.kds) sl D.pinT D.pinH (D.pins sl)
      let θ0 <- uniP D.params (sig l nx) (D.hd μ).h (uniOv D.params sl (D.hd μ).ov θ1)
      must ((θ0.map (·.1)).all (fun p => inL p D.params)) "entry: the loop's own variables"
      let θ := (D.r, E.il 0) :: θ0
      let es <- ofOpt (entOvC (prE θ) D.okv (sig l nx) sl (D.hd μ).ov) "entry: slots"
      vcsP (LoopY.factsO (primeF (prE θ) (D.ent μ ++ D.mf μ)))
      vcsP es
      entHpP (prE θ) D.okv (sig l nx) (D.hd μ).h
      let ν <- decP (D.exits.map fun x => (x.1.prime (prE θ), x.2))
      D.outP ⟨sl, fr.df⟩ l θ nx (((D.hd μ).h.filter fun x => x.2.isAr).map (·.1)) (((D.hd μ).h.filter fun x => x.2.owner).map fun x => sig l nx x.1) ν)) none) none
end LoopY
def LpOk (P : Program) (env : Env) (f : FuncId) (key : Nat) (pp : Fr -> Nat -> Option (Prog (SExit × Fr × Nat))) : Prop :=
  ∀ (w0 : Anchor) fr nx p h ex fr' h' nx', pp fr nx = some p -> p.Run env h (ex, fr', nx') h' -> nx <= nx' /\ ∀ ρ (a : Act) w (Q : Exit -> Act -> World -> Prop), Sat env w0 ρ fr h nx a w ->
    (∀ ρ' (a' : Act) w', ρ.le ρ' -> Sat env w0 ρ' fr' h' nx' a' w' -> Q ex.den a' w') -> (Code.loop (theLoop P f key)).wp P Q a w
def FnOk (P : Program) (env : Env) (f : FuncId) (pp : List SV -> Nat -> Option (Prog (SV × Nat))) : Prop :=
  ∀ (w0 : Anchor) args nx p h r h' nx', pp args nx = some p -> p.Run env h (r, nx') h' -> nx <= nx' /\ ∀ ρ w vs, HSat env w0 ρ h w -> (∀ n p, ρ n = some p -> n < nx) -> SV.Rels env ρ args vs ->
    Calls P f vs.toArray w fun e w' => ∃ ρ' v, e = .returned v /\ ρ.le ρ' /\ HSat env w0 ρ' h' w' /\ (∀ n p, ρ' n = some p -> n < nx') /\ r.Rel env ρ' v
structure Ctr where
  fns : List (FuncId × (List SV -> Nat -> Option (Prog (SV × Nat))))
  lps : List (FuncId × Nat × (Fr -> Nat -> Option (Prog (SExit × Fr × Nat))))
def fnAt : List (FuncId × (List SV -> Nat -> Option (Prog (SV × Nat)))) -> FuncId -> List SV -> Nat -> Option (Prog (SV × Nat))
  | [], _, _, _ => none
  | (g, p) :: r, f, args, nx => cond (Nat.beq g f) (p args nx) (fnAt r f args nx)
def lpAt : List (FuncId × Nat × (Fr -> Nat -> Option (Prog (SExit × Fr × Nat)))) -> FuncId -> Nat -> Fr -> Nat -> Option (Prog (SExit × Fr × Nat))
  | [], _, _, _, _ => none
  | (g, k, p) :: r, f, key, fr, nx => cond (Nat.beq g f && Nat.beq k key) (match p fr nx with | some q => some q | none => lpAt r f key fr nx) (lpAt r f key fr nx)
def Ctr.x (c : Ctr) : XCtr := ⟨fnAt c.fns, fun f k fr nx _ => lpAt c.lps f k fr nx, false⟩
theorem fnAt_mem : ∀ {l : List (FuncId × (List SV -> Nat -> Option (Prog (SV × Nat))))} {f : FuncId} {args : List SV} {nx : Nat} {q : Prog (SV × Nat)}, fnAt l f args nx = some q -> ∃ x ∈ l, x.1 = f /\ x.2 args nx = some q
  | [], _, _, _, _, h => by cases h
  | (g, p) :: r, f, args, nx, q, h => by
    unfold fnAt at h; cases hb : Nat.beq g f with
    | true => rw [hb] at h; exact ⟨(g, p), List.mem_cons_self .., Nat.eq_of_beq_eq_true hb, h⟩
    | false => rw [hb] at h; obtain ⟨x, h1, h2⟩ := fnAt_mem h; exact ⟨x, List.mem_cons_of_mem _ h1, h2⟩
theorem lpAt_mem : ∀ {l : List (FuncId × Nat × (Fr -> Nat -> Option (Prog (SExit × Fr × Nat))))} {f : FuncId} {key : Nat} {fr : Fr} {nx : Nat} {q : Prog (SExit × Fr × Nat)}, lpAt l f key fr nx = some q -> ∃ x ∈ l, x.1 = f /\ x.2.1 = key /\ x.2.2 fr nx = some q
  | [], f, key, fr, nx, q, h => by cases h
  | (g, k, p) :: r, f, key, fr, nx, q, h => by
    unfold lpAt at h
    have rest : lpAt r f key fr nx = some q -> ∃ x ∈ (g, k, p) :: r, x.1 = f /\ x.2.1 = key /\ x.2.2 fr nx = some q := fun h => by
      obtain ⟨x, h1, h2⟩ := lpAt_mem h; exact ⟨x, List.mem_cons_of_mem _ h1, h2⟩
    cases hb : (Nat.beq g f && Nat.beq k key) with
    | true =>
      rw [hb] at h; simp only [cond_true] at h; rw [Bool.and_eq_true] at hb; split at h
      . rename_i q' hq; injection h with h; subst h; exact ⟨(g, k, p), List.mem_cons_self .., Nat.eq_of_beq_eq_true hb.1, Nat.eq_of_beq_eq_true hb.2, hq⟩
      . exact rest h
    | false => rw [hb] at h; exact rest h
theorem Ctr.ok {P : Program} {env : Env} {c : Ctr} (hap : c.lps.all (fun x => loopsApart P x.1) = true) (hf : ∀ x ∈ c.fns, FnOk P env x.1 x.2) (hl : ∀ x ∈ c.lps, LpOk P env x.1 x.2.1 x.2.2) (w0 : Anchor) : ExtOk P env w0 (c.x.toExt P) := by
  refine ⟨fun f args nx p h r h' nx' hx hr => ?_, fun code fr nx p h ex fr' h' nx' hx hr => ?_⟩
  . obtain ⟨x, hm, rfl, hp⟩ := fnAt_mem hx; exact hf x hm w0 args nx p h r h' nx' hp hr
  . obtain ⟨f, fn, body, k, _, h1, h2, h3, h4⟩ := hx; obtain ⟨x, hm, rfl, rfl, hp⟩ := lpAt_mem h4; rw [theLoop_eq (List.all_eq_true.1 hap x hm) h1 h2 h3]; exact hl x hm w0 fr nx p h ex fr' h' nx' hp hr
namespace LoopY
theorem updC_ok {D : LoopY} {env e : Env} {l : List (Nat × Nat)} {θ : List (Nat × E)} {nx : Nat} (hn : Nexts env e (prE θ) D.okv) {tl : List (Nat × Nat)} {Hx : Head} : ∀ {us : List (Nat × Option Nat)} {es : List Ob}, D.updC l θ nx tl Hx us = some es -> AllT env es ->
    ∀ n o, (n, o) ∈ us.map (fun x => (x.1, D.leftO l θ nx Hx x.2)) -> o = .gone \/ (o.owner = true /\ ∃ oE, cget Hx.h (sig tl Hx.m n) = some oE /\ oE.owner = true /\ SObj.ent e env (sig tl Hx.m) oE o) \/ ∃ T ks x, o = .ar T ks x /\ n = arN T /\ ∃ x1, cget Hx.h n = some (.ar T ks x1) /\ (x1.den e).T = (x.den env).T
  | [], es, _, _, n, o, h => by cases h
  | (n0, none) :: r, es, hc, ht, n, o, hm => by
    simp only [updC] at hc; simp only [List.map_cons] at hm; rcases List.mem_cons.1 hm with e1 | hm
    . injection e1 with e1 e2; exact .inl e2
    . exact updC_ok hn hc ht n o hm
  | (n0, some k) :: r, es, hc, ht, n, o, hm => by
    simp only [updC] at hc; split at hc
    . rename_i T ks x hg; cases hb : (Nat.beq n0 k && Nat.beq n0 (arN T)) with
      | false => rw [hb] at hc; cases hc
      | true =>
        rw [hb] at hc; simp only [cond_true] at hc; simp only [Bool.and_eq_true, Nat.beq_eq] at hb; simp only [List.map_cons] at hm; rcases List.mem_cons.1 hm with e1 | hm
        . injection e1 with e1 e2; subst e1
          have e3 : o = (SObj.ar T ks x).ren (D.ren1 l nx) (prE θ) := by
            rw [e2]; show (match cget Hx.h k with | some o => o.ren (D.ren1 l nx) (prE θ) | none => .gone) = _
            rw [hg]
          refine .inr (.inr ⟨T, ks, x.prime (prE θ), e3, hb.2, x, by rw [hb.1]; exact hg, ?_⟩)
          rw [E.prime_den hn]
        . exact updC_ok hn hc ht n o hm
    . rename_i oE hna hg; cases hb : Nat.beq (sig tl Hx.m n0) k with
      | false => rw [hb] at hc; cases hc
      | true =>
        rw [hb] at hc; simp only [cond_true] at hc; obtain ⟨l1, l2, h1, h2, rfl⟩ := obl2_some hc; obtain ⟨t1, t2⟩ := allT_append.1 ht; simp only [List.map_cons] at hm; rcases List.mem_cons.1 hm with e1 | hm
        . injection e1 with e1 e2; subst e1; obtain ⟨g1, g2, g3⟩ := SObj.ren_ent hn h1 t1
          have e3 : o = oE.ren (D.ren1 l nx) (prE θ) := by
            rw [e2]; show (match cget Hx.h k with | some o => o.ren (D.ren1 l nx) (prE θ) | none => .gone) = _
            rw [hg]
          rw [e3]; exact .inr (.inl ⟨g3, oE, by rw [Nat.eq_of_beq_eq_true hb]; exact hg, g2, g1⟩)
        . exact updC_ok hn h2 t2 n o hm
    . cases hc
theorem ovOk_ent {env e : Env} {pr : Nat -> E} {okv : Nat -> Bool} {σ τ : Nat -> Nat} (hn : Nexts env e pr okv) {sl : List SV} : ∀ {ov : List (Nat × SV)}, (∀ x ∈ ov, nth sl x.1 = some x.2 /\ x.2.renOk σ τ okv = true) -> entOv e env σ sl (ov.map fun x => (x.1, x.2.ren τ pr))
  | [], _ => trivial
  | (j, y) :: r, h => by
    obtain ⟨h1, h2⟩ := h _ (List.mem_cons_self ..); refine ⟨?_, ovOk_ent hn fun x hx => h x (List.mem_cons_of_mem _ hx)⟩; simp only at h1; rw [h1]; exact SV.ren_ent hn h2
theorem ovGet_of_mem : ∀ {l : List (Nat × SV)} {j : Nat} {x : SV}, allDiff (l.map (·.1)) = true -> (j, x) ∈ l -> ovGet l j = some x
  | [], _, _, _, h => by cases h
  | (i, y) :: r, j, x, hd, h => by
    simp only [List.map_cons, allDiff, Bool.and_eq_true, Bool.not_eq_true'] at hd; unfold ovGet; rcases List.mem_cons.1 h with e | h
    . injection e with e1 e2; subst e1; subst e2; simp
    . have : Nat.beq i j = false := by
        rw [Bool.eq_false_iff]; intro he; obtain rfl := Nat.eq_of_beq_eq_true he; rw [inL_iff.2 (List.mem_map.2 ⟨(i, x), h, rfl⟩ : i ∈ r.map (·.1))] at hd; exact absurd hd.1 (by simp)
      rw [this]; exact ovGet_of_mem hd.2 h
theorem ovGet_map {g : SV -> SV} : ∀ {l : List (Nat × SV)} {j : Nat}, ovGet (l.map fun x => (x.1, g x.2)) j = none -> ovGet l j = none
  | [], _, _ => rfl
  | (i, x) :: r, j, h => by
    simp only [List.map_cons, ovGet] at h ⊢; cases hb : Nat.beq i j with
    | true => rw [hb] at h; cases h
    | false => rw [hb] at h; exact ovGet_map h
structure Rounds (P : Program) (D : LoopY) (env : Env) (μ0 : Nat) where
  n : Nat
  mode : (Nat -> Value) -> Nat -> Nat -> Prop
  L : Nat -> List (Facts × List Ob)
  hX : ∀ i u A, i <= n -> ExtOk P (D.env env u i) A (D.X.toExt P)
  hob : ∀ u i μ, mode u i μ -> D.obl P μ = some (L μ)
  hall : ∀ i μ u, mode u i μ -> i <= n -> ∀ x ∈ L μ, x.1.Hold (D.env env u i) -> AllT (D.env env u i) x.2
  hfs : ∀ i μ u, mode u i μ -> i <= n -> (D.hd μ).fs.Hold (D.env env u i)
  hlt : ∀ i u, i <= n -> (D.lt.den (D.env env u i)).B = true -> i < n
  hturn : ∀ u i μ μ', mode u i μ -> D.tgt μ' = true -> (D.mf μ').Hold (D.env env u (i + 1)) -> i + 1 <= n -> ∃ μ2, mode u (i + 1) μ2 /\ SameH (D.hd μ2) (D.hd μ')
  hm0 : ∀ u, (D.mf μ0).Hold (D.env env u 0) -> ∃ μ2, mode u 0 μ2 /\ SameH (D.hd μ2) (D.hd μ0)
structure Like (D : LoopY) (env e' : Env) : Prop where
  v : ∀ n, n ∉ D.params -> n ≠ D.r -> e'.v n = env.v n
  r : e'.v D.r = .i 0
  fn : e'.fn = env.fn
  val : e'.val = env.val
  mp : e'.mp = env.mp
  uf : e'.uf = env.uf
def Runs (P : Program) (D : LoopY) (e : Env) (u : Nat -> Value) (μ2 : Nat) : Prop := ∀ (A : Anchor) (ρ0 : PMap) (a : Act) (w : World) (Q : Exit -> Act -> World -> Prop),
  Sat (D.env e u 0) A ρ0 ⟨mkSl (D.full (D.hd μ2)).ov u 0 D.N, D.dfc⟩ (cden (D.hd μ2).h) (D.hd μ2).m a w ->
  (∀ ν ρ (a' : Act) w', (∃ xs, exitObl D.exits ν = some xs /\ AllT (D.env e u 0) xs) -> ((∀ k ∈ D.fixed, ∀ p, ρ0 k = some p -> ρ k = some p) /\ Fz.le ρ0.fz ρ.fz) ->
    Sat (D.env e u 0) A ρ ⟨mkSl (D.full (D.hx ν)).ov (fun _ => .nilIface) 0 D.N, D.dfc⟩ (cden (D.hx ν).h) (D.hx ν).m a' w' -> Q (D.exN ν).den a' w') ->
  (Code.loop (theLoop P D.f D.key)).wp P Q a w
theorem lp_core {P : Program} {D : LoopY} {env : Env}
    (hR : ∀ e', Like D env e' -> ∀ μ0, D.ok0 μ0 = true -> (D.ent μ0).Hold e' -> ∀ u, (D.mf μ0).Hold (D.env e' u 0) -> ∃ μ2, SameH (D.hd μ2) (D.hd μ0) /\ Runs P D e' u μ2) (hxobj : ∀ ν, ((D.hx ν).h.all fun x => headObj x.2) = true) : LpOk P env D.f D.key D.lpP := by
  intro w0 fr nx p h ex fr' h' nx' hp hr; unfold lpP at hp; cases hc : ((dfFit fr.df D.dfN && Nat.ble (dfTot D.dfN) 100) && Nat.beq fr.sl.length D.N && Nat.ble D.N 900) with
  | false => rw [hc] at hp; cases hp
  | true =>
    rw [hc] at hp; simp only [Bool.and_eq_true, Nat.beq_eq] at hc; obtain ⟨⟨hdf, hN⟩, hN1⟩ := hc; have hN1 := Nat.le_of_ble_eq_true hN1; cases happ : D.app fr.sl with
    | false => rw [happ] at hp; cases hp
    | true =>
      rw [happ] at hp; simp only [cond_true, Option.some.injEq] at hp; subst hp; simp only [run_bind, run_must, run_ofOpt, run_vcsP] at hr; obtain ⟨μ0, _, hmd, _, _, ⟨hok0, rfl⟩, sl0, h0, hfr, l, _, ha, sl, h1, hfh, _, _, ⟨hchk, rfl⟩, θ1, _, hθ1, θ0, _, hθ, _, _, ⟨hθ2, rfl⟩, es, _, ⟨hes, rfl⟩, _, _, ⟨htf, rfl⟩, _, _, ⟨htes, rfl⟩, _, hx, hE, ν, hy, hdec, hout⟩ := hr; obtain rfl := D.modeP _ hmd; obtain rfl := autoP_heap ha; have hsll := (frzHpP_len hfh).trans (frzInP_len hfr)
      have hfr0 : ∀ {A : Anchor} {ρ : PMap} {a : Act} {w : World}, Sat env A ρ fr h nx a w -> ∃ ρ', ρ.le ρ' /\ Sat env A ρ' ⟨sl, fr.df⟩ h1 nx a w := fun hs => by
        obtain ⟨ρ1, l1, s1⟩ := frzInP_ok hfr (hs); obtain ⟨ρ2, l2, s2⟩ := frzHpP_ok hfh s1; exact ⟨ρ2, PMap.le_trans l1 l2, s2⟩
      have hN' : sl.length = D.N := hsll.trans hN; clear hfr hfh; obtain rfl := pinA_heap hθ1; obtain rfl := uniP_heap hθ; have hpθ : ∀ p ∈ θ0.map (·.1), p ∈ D.params := fun p hp => inL_iff.1 (List.all_eq_true.1 hθ2 p hp); generalize hθd : (D.r, E.il 0) :: θ0 = θ at *; have hrθ : prE θ D.r = .il 0 := by rw [<- hθd]; unfold prE; rw [Nat.beq_refl]; rfl
      have hlike : Like D env (withP env θ) := ⟨fun n hn hr => by
        show (prE θ n).den env = env.v n; rw [<- hθd, prE_no fun hm => ?_]
        . rfl
        . simp only [List.map_cons, List.mem_cons] at hm; rcases hm with h | h
          . exact hr h
          . exact hn (hpθ n h), by show (prE θ D.r).den env = .i 0; rw [hrθ]; rfl, rfl, rfl, rfl, rfl⟩
      have htf := factsO_ok htf; have hent : (D.ent μ0 ++ D.mf μ0).Hold (withP env θ) := primeF_ok (nextP env θ) htf; have hm0 := hR _ hlike μ0 hok0 (hold_append_iff.1 hent).1; simp only [Bool.and_eq_true] at hchk; obtain ⟨⟨⟨hinj, hltl⟩, hfix⟩, hobj⟩ := hchk; have hnE0 := D.nextE (e := env) (θ := θ) hrθ fun _ => .nilIface; obtain ⟨rfl, _⟩ : h1 = hx /\ True := ⟨(entHpP_ok (S := ((D.hd μ0).h.map fun x => tgtN (sig l nx) x.2 x.1)) hnE0 hE fun x hx _ => List.mem_map.2 ⟨x, hx, rfl⟩).1, trivial⟩; obtain rfl := decP_heap hdec; simp only [outP, run_bind, run_must, run_ofOpt, run_vcsP, run_puts, run_pure] at hout; obtain ⟨_, _, ⟨hok, rfl⟩, es2, _, ⟨he2, rfl⟩, _, _, ⟨hto, rfl⟩, _, _, rfl, e1, rfl⟩ := hout; injection e1 with e1 e2; injection e2 with e2 e3; subst e1; subst e2; subst e3; refine ⟨Nat.le_add_right .., fun ρ0 a w Q hs0 hQ0 => ?_⟩; obtain ⟨ρ, hle0, hs⟩ := hfr0 hs0; have hQ : ∀ ρ' (a' : Act) w', ρ.le ρ' -> Sat env w0 ρ' _ _ _ a' w' -> Q (D.exN ν).den a' w' := fun ρ' a' w' hle hs' => hQ0 ρ' a' w' (PMap.le_trans hle0 hle) hs'; have hal : a.tmps.toList.length = D.N := by rw [hs.sl.length]; exact hN'
      let u : Nat -> Value := fun j => if j < 900 then (a.tmps.toList[j]?).getD undef else ((dfVals a.defers)[j - 900]?).getD undef
      have hvu : ∀ i j, j < D.N -> (D.env (withP env θ) u i).val (D.base + j) 0 = (a.tmps.toList[j]?).getD undef := by
        intro i j hj; show (if D.base <= D.base + j /\ D.base + j < D.base + 1000 then u (D.base + j - D.base) else env.val _ _) = _
        rw [if_pos ⟨by omega, by omega⟩, Nat.add_sub_cancel_left]
        show (if j < 900 then _ else _) = _
        rw [if_pos (by omega)]
      have hnE := D.nextE (e := env) (θ := θ) hrθ u
      let Sa := ((D.hd μ0).h.filter fun x => x.2.isAr).map (·.1)
      let So := ((D.hd μ0).h.filter fun x => x.2.owner).map fun x => sig l nx x.1
      obtain ⟨_, hhp, hpl⟩ := entHpP_ok (S := Sa ++ So) hnE hE fun x hx ho => by
        rcases ho with ho | ho
        . rw [tgtN_owner _ ho]; exact List.mem_append_right _ (List.mem_map.2 ⟨x, List.mem_filter.2 ⟨hx, ho⟩, rfl⟩)
        . unfold tgtN; rw [ho]; exact List.mem_append_left _ (List.mem_map.2 ⟨x, List.mem_filter.2 ⟨hx, ho⟩, rfl⟩)
      have hdv : ∀ i (j : Nat) (v : Value), (dfVals a.defers)[j]? = some v -> (D.env (withP env θ) u i).val (D.base + 900 + j) 0 = v := by
        intro i j v hj; have hlen := dfVals_len hdf.1 hs.df; have hj2 := (List.getElem?_eq_some_iff.1 hj).1; have hd2 := Nat.le_of_ble_eq_true hdf.2; show (if D.base <= D.base + 900 + j /\ D.base + 900 + j < D.base + 1000 then u (D.base + 900 + j - D.base) else env.val _ _) = _
        rw [if_pos ⟨by omega, by omega⟩, show D.base + 900 + j - D.base = 900 + j by omega]
        show (if 900 + j < 900 then _ else _) = _
        rw [if_neg (by omega), Nat.add_sub_cancel_left, hj]
        rfl
      have hin := sat_in_full (vB := D.base) (js := D.js) hs (entOvC_ok hnE hes htes) hhp hobj hinj (fun x hx => by
        have := List.all_eq_true.1 hltl x hx; unfold Nat.blt at this
        exact Nat.le_of_ble_eq_true this) (fun ρ' => mkDf_in hdf.1 hs.df (hdv 0)) hN' (hvu 0)
      obtain ⟨μ2, hsame, hruns⟩ := hm0 u (primeF_ok hnE fun e b hm => htf e b (by
        obtain ⟨x, hx, hx2⟩ := List.mem_map.1 hm
        exact List.mem_map.2 ⟨x, List.mem_append_right _ hx, hx2⟩))
      have hin2 : Sat (D.env (withP env θ) u 0) (anchorBut w ρ (ownedBy ρ h1 (Sa ++ So))) (ρ.re (sig l nx)) ⟨mkSl (D.full (D.hd μ2)).ov u 0 D.N, D.dfc⟩ (cden (D.hd μ2).h) (D.hd μ2).m a w := by
        have hq1 := (hsame.full D.base D.N D.js).ov; unfold LoopY.full; rw [hq1, hsame.h, hsame.m]; have e9 : mkSl (fullH D.base D.N D.js (D.hd μ0)).ov u 0 D.N = mkSl (fullH D.base D.N D.js (D.hd μ0)).ov (fun j => (a.tmps.toList[j]?).getD undef) 0 D.N := mkSl_indep _ _; rw [e9]; exact hin
      refine hruns _ _ _ _ _ hin2 ?_; intro ν' ρE a' w' ⟨xs, hxs, htx⟩ hfixE hsE; obtain rfl := decP_ok hnE hdec hxs htx; unfold outOk at hok; simp only [Bool.and_eq_true] at hok; obtain ⟨⟨⟨⟨⟨⟨hxo, hdiff⟩, hxall⟩, hmax⟩, hup⟩, hain⟩, hov⟩ := hok; have hmax := Nat.le_of_ble_eq_true hmax
      have hkeys : ∀ m, m ∈ (D.updsL l θ nx Sa So (D.hx ν)).map (·.1) ↔ m ∈ Sa ++ So \/ m ∈ D.newsL (D.hx ν) nx := fun m => by
        unfold updsL updsK newsL; simp only [List.map_map, List.map_append, List.mem_append, Function.comp_def, or_assoc, List.map_id']
      have hnewlt : ∀ m ∈ D.newsL (D.hx ν) nx, nx <= m /\ m < nx + (D.hx ν).m := fun m hm => by
        obtain ⟨y, hy, rfl⟩ := List.mem_map.1 hm; obtain ⟨hy1, hy2⟩ := List.mem_filter.1 hy
        have hna : notAr y = true := by
          unfold isNew at hy2; rw [Bool.and_eq_true] at hy2; unfold notAr; rw [owner_ar hy2.1]; rfl
        have := List.all_eq_true.1 hxall y (List.mem_filter.2 ⟨hy1, hna⟩); rw [Bool.and_eq_true] at this; have h1 := this.1; unfold Nat.blt at h1; have := Nat.le_of_ble_eq_true h1; omega
      have hupAt : ∀ T, arN T ∈ Sa -> ∃ ks' x', hget (hputs (D.updsL l θ nx Sa So (D.hx ν)) h1) (arN T) = some (.ar T ks' x') := fun T hT => by
        obtain ⟨o, g1, g2⟩ := hputs_has (h := h1) ((hkeys (arN T)).2 (.inl (List.mem_append_left _ hT))); obtain ⟨ks', x', rfl⟩ := arsUp_ok hup hT g1; exact ⟨ks', x', g2⟩
      have hxall := List.all_eq_true.1 hxall; unfold ovOk at hov; rw [Bool.and_eq_true] at hov; obtain ⟨hov1, hov2⟩ := hov
      obtain ⟨hle, hso⟩ := sat_out_full (vB := D.base) (e := D.env (withP env θ) u 0) (js := D.js) (nx' := nx + (D.hx ν).m) (news := D.newsL (D.hx ν) nx) hs hsE (tl := D.tlL l nx (D.hx ν)) (upds := D.updsL l θ nx Sa So (D.hx ν)) (outs := D.outsL l θ nx (D.hx ν))
        hkeys hnewlt (Nat.le_add_right ..)
        (updC_ok hnE he2 hto) hfixE.2
        (fun T ks x hx => by
          have := List.all_eq_true.1 hain _ (cget_mem hx); have hT : arN T ∈ Sa := inL_iff.1 this
          exact ⟨List.mem_append_left _ hT, hupAt T hT⟩)
        (fun T ks x hx => by
          by_cases hk : arN T ∈ (D.updsL l θ nx Sa So (D.hx ν)).map (·.1)
          . rcases (hkeys _).1 hk with hk | hk
            . rcases List.mem_append.1 hk with hk | hk
              . exact hupAt T hk
              . exfalso; obtain ⟨y, hy, he⟩ := List.mem_map.1 hk; obtain ⟨hy1, hy2⟩ := List.mem_filter.1 hy; obtain ⟨o, ho, hpo⟩ := hpl y hy1 (owner_ar hy2); rw [he, hx] at ho; injection ho with ho; rw [<- ho] at hpo; cases hpo
            . exfalso; have := (hnewlt _ hk).2; unfold arN at this; omega
          . exact ⟨ks, x, by rw [hputs_no hk]; exact hx⟩)
        hdiff
        (fun x hx => by
          obtain ⟨y, hy, rfl⟩ := List.mem_map.1 hx; have := hxall y hy; rw [Bool.and_eq_true, Bool.or_eq_true] at this; simp only; cases hf : inL y.1 D.fixed with
          | true =>
            have hk := List.all_eq_true.1 hfix y.1 (inL_iff.1 hf); obtain ⟨z, hz, hz1⟩ := List.mem_map.1 (inL_iff.1 hk); obtain ⟨hz, hzn⟩ := List.mem_filter.1 hz; obtain ⟨o, ho, hpo⟩ := hpl z hz (by unfold notAr at hzn; simpa using hzn)
            obtain ⟨q, hq⟩ := placed_some (hs.hs.objs _ o ho) hpo; refine .inr ?_; unfold ren1; rw [hf]; rw [hz1] at hq; rw [show (bif true then sig l nx y.1 else nx + y.1) = sig l nx y.1 from rfl, hq]; exact (hfixE.1 y.1 (inL_iff.1 hf) q hq).symm
          | false =>
            rw [hf] at this; rcases this.2 with h | h
            . cases h
            . refine .inl (List.mem_map.2 ⟨y, List.mem_filter.2 ⟨(List.mem_filter.1 hy).1, ?_⟩, ?_⟩)
              . unfold isNew; rw [h, hf]; rfl
              . unfold ren1; rw [hf]; rfl)
        (ovOk_ent hnE fun x hx => by
          have := List.all_eq_true.1 hov1 x hx; rw [Bool.and_eq_true] at this; have h1 := this.1; unfold Nat.blt at h1; have h1 : x.1 < D.N := Nat.le_of_ble_eq_true h1; refine ⟨?_, this.2⟩; rw [nth_eq, mkSl_get D.N 0 x.1 h1, Nat.zero_add]; unfold fullH fullOv; simp only
          rw [ovGet_append, ovGet_of_mem hov2 hx]) (fun ρ' ds hle hd => mkDf_out hle hdf.1 hs.df (hdv 0) hd) hN' (hvu 0) (fun j hj hno => ovGet_map hno)
      exact hQ _ a' w' hle hso
theorem lp_okP {P : Program} (hP : Plain P) (hM : P.follows .mixedOrders = true) {D : LoopY} (hbody : ((P.funcs[D.f]?).bind (·.body)).isSome = true) {env : Env}
    (hR : ∀ e', Like D env e' -> ∀ μ0, D.ok0 μ0 = true -> (D.ent μ0).Hold e' -> Nonempty (Rounds P D e' μ0)) (hxobj : ∀ ν, ((D.hx ν).h.all fun x => headObj x.2) = true) : LpOk P env D.f D.key D.lpP := by
  refine lp_core (fun e' he μ0 h0 hent u hmf => ?_) hxobj; obtain ⟨n, mode, L, hX, hob, hall, hfs, hlt, hturn, hm0⟩ := hR _ he μ0 h0 hent; obtain ⟨μ2, hm2, hsame⟩ := hm0 u hmf; exact ⟨μ2, hsame, fun A ρ0 a w Q hs hexit => LoopY.comp hP hM hbody (n := n) (u := u) (L := L) (mode := mode u) (fun i hi => hX i u _ hi) (hob u) (fun i μ hm hi => hall i μ u hm hi) (fun i μ hm hi => hfs i μ u hm hi) (fun i hi => hlt i u hi) (hturn u) hxobj hm2 hs hexit⟩
end LoopY
def rgC (c : Code) : Option (Nat × Nat × Nat × Code) :=
  match c with
  | .seq (.region _ ops dr) r =>
    match ops.toList with
    | [o1, o2] =>
      match o1.op, o2.op, o1.dst, o2.dst, o1.guard, o2.guard with
      | .next (.tmp it) false, .extract (.tmp d) 0, some d1, some d2, none, none => cond (Nat.beq d d1 && !dr) (some (it, d1, d2, r)) none
      | _, _, _, _, _, _ => none
    | _ => none
  | _ => none
theorem wp_next2 {P : Program} {c r : Code} {it d1 d2 : Nat} (hc : rgC c = some (it, d1, d2, r)) {a : Act} {w w1 : World} {Q : Exit -> Act -> World -> Prop} {b : Bool} {vs : List Value}
    (h1 : d1 < a.tmps.size) (hrun : ∀ ty, (Instr.next (a.eval (.tmp it)) false ty).run P w = .ok (.tuple (Value.bool b :: vs).toArray) w1)
    (hr : r.wp P Q ((a.put (some d1) (.tuple (Value.bool b :: vs).toArray)).put (some d2) (.bool b)) w1) : c.wp P Q a w := by
  unfold rgC at hc; split at hc
  . rename_i rid ops dr r'; split at hc
    . rename_i o1 o2 hops; split at hc
      . rename_i it' d e1 e2 g1 g2 g3 g4 g5 g6; cases hb : (Nat.beq d e1 && !dr) with
        | false => rw [hb] at hc; cases hc
        | true =>
          rw [hb] at hc; simp only [cond_true, Option.some.injEq, Prod.mk.injEq] at hc; obtain ⟨rfl, rfl, rfl, rfl⟩ := hc; simp only [Bool.and_eq_true, Nat.beq_eq, Bool.not_eq_true'] at hb; obtain ⟨rfl, rfl⟩ := hb; obtain rfl : ops = #[o1, o2] := by rw [<- Array.toList_inj]; exact hops
          refine wp_seq (wp_region ?_); show wpOps P _ _ [0, 1] a w; have k1 : ∀ y, Region.wanted o1 y = true := fun y => by unfold Region.wanted; rw [g5]
          have k2 : ∀ y, Region.wanted o2 y = true := fun y => by unfold Region.wanted; rw [g6]
          unfold wpOps; simp only [List.getElem?_toArray, List.getElem?_cons_zero, k1, if_true]
          left
          unfold Oper.wp; simp only [execOp, g1, Sem.run_bind, hrun, Result.andThen_ok, Sem.run_pure]; rw [Oper.upon_value, g3]; unfold wpOps; simp only [List.getElem?_toArray, List.getElem?_cons_succ, List.getElem?_cons_zero, k2, if_true]
          left
          unfold Oper.wp
          have hev : (a.put (some d) (.tuple (Value.bool b :: vs).toArray)).eval (.tmp d) = .tuple (Value.bool b :: vs).toArray := by
            simp [Act.eval, Act.put, Array.getD_eq_getD_getElem?, Array.getElem?_setIfInBounds, h1]
          simp only [execOp, g2, hev, Instr.extract, List.getElem?_toArray, List.getElem?_cons_zero, Sem.run_bind, Result.andThen_ok, Sem.run_pure]; rw [Oper.upon_value, g4]; exact hr
      . cases hc
    . cases hc
  . cases hc
theorem DmAll.fw {kk : KK} {ag : Bool} {ks : DKs} {fz : Fz} : ∀ {es : List MapEntry} {l : List (List Dv)}, DmAll kk ag ks fz es l -> ∀ e ∈ es, ∃ r ∈ l, DmOk kk ag ks fz e r
  | _, _, .nil, e, h => by cases h
  | _, _, .cons a t, e, h => by
    rcases List.mem_cons.1 h with rfl | h
    . exact ⟨_, List.mem_cons_self .., a⟩
    . obtain ⟨r, h1, h2⟩ := DmAll.fw t e h; exact ⟨r, List.mem_cons_of_mem _ h1, h2⟩
theorem DmAll.bw {kk : KK} {ag : Bool} {ks : DKs} {fz : Fz} : ∀ {es : List MapEntry} {l : List (List Dv)}, DmAll kk ag ks fz es l -> ∀ r ∈ l, ∃ e ∈ es, DmOk kk ag ks fz e r
  | _, _, .nil, e, h => by cases h
  | _, _, .cons a t, e, h => by
    rcases List.mem_cons.1 h with rfl | h
    . exact ⟨_, List.mem_cons_self .., a⟩
    . obtain ⟨r, h1, h2⟩ := DmAll.bw t e h; exact ⟨r, List.mem_cons_of_mem _ h1, h2⟩
theorem SeenAll.bw {kk : KK} {kb : List (Value × Nat)} : ∀ {l : List (List Dv)} {s : List Nat}, SeenAll kk kb l s -> ∀ b ∈ s, ∃ r ∈ l, (kk.dv (r.headD (.i 0)), b) ∈ kb
  | _, _, .nil, b, h => by cases h
  | _, _, .cons a t, b, h => by
    rcases List.mem_cons.1 h with rfl | h
    . exact ⟨_, List.mem_cons_self .., a⟩
    . obtain ⟨r, h1, h2⟩ := SeenAll.bw t b h; exact ⟨r, List.mem_cons_of_mem _ h1, h2⟩
theorem SeenAll.fw {kk : KK} {kb : List (Value × Nat)} : ∀ {l : List (List Dv)} {s : List Nat}, SeenAll kk kb l s -> ∀ r ∈ l, ∃ b ∈ s, (kk.dv (r.headD (.i 0)), b) ∈ kb
  | _, _, .nil, b, h => by cases h
  | _, _, .cons a t, b, h => by
    rcases List.mem_cons.1 h with rfl | h
    . exact ⟨_, List.mem_cons_self .., a⟩
    . obtain ⟨r, h1, h2⟩ := SeenAll.fw t b h; exact ⟨r, List.mem_cons_of_mem _ h1, h2⟩
theorem pw_eq {α β : Type} {f : α -> β} : ∀ {l : List α}, (l.Pairwise fun a b => f a ≠ f b) -> ∀ {x y : α}, x ∈ l -> y ∈ l -> f x = f y -> x = y := by
  intro l hp
  induction hp with
  | nil => intro x y hx; cases hx
  | cons h _ ih =>
    intro x y hx hy he; rcases List.mem_cons.1 hx with ex | hx1
    . rcases List.mem_cons.1 hy with ey | hy1
      . rw [ex, ey]
      . exact absurd he (by rw [ex]; exact h _ hy1)
    . rcases List.mem_cons.1 hy with ey | hy1
      . exact absurd he.symm (by rw [ey]; exact h _ hx1)
      . exact ih hx1 hy1 he
theorem SeenAll.inj {kk : KK} {kb : List (Value × Nat)} (hk : kb.Pairwise fun a b => a.1 ≠ b.1) : ∀ {l : List (List Dv)} {s t : List Nat}, SeenAll kk kb l s -> SeenAll kk kb l t -> s = t
  | _, _, _, .nil, .nil => rfl
  | _, _, _, .cons a t, .cons b u => by
    have := pw_eq hk a b rfl; injection this with _ h; rw [h, SeenAll.inj hk t u]
section
variable {P : Program} {env : Env} {A : Anchor} {ρ : PMap} {h : Heap} {w : World}
theorem HSat.next (H : HSat env A ρ h w) {kI m : Nat} {kk : KK} {V e : E} {ag : Bool} {ks : DKs} {p : Pl} {s : Nat} {kb : List (Value × Nat)}
    (hI : hget h kI = some (.itr m kk V)) (hM : hget h m = some (.dmp kk ag ks e (some kI))) (hp : ρ kI = some p) (hg : p.gh = some (s, kb)) :
    (kb.Pairwise fun a b => a.1 ≠ b.1) /\ (kb.Pairwise fun a b => a.2 ≠ b.2) /\ ∃ seen : List Nat, SeenAll kk kb (V.den env).T seen /\
    (((∀ ty, (Instr.next (.pointer (some ⟨p.block, p.base + 0, none⟩)) false ty).run P w = .ok (.tuple (Value.bool false :: []).toArray) w) /\
      ∀ row ∈ (e.den env).T, ∃ r2 ∈ (V.den env).T, kk.dv (r2.headD (.i 0)) = kk.dv (row.headD (.i 0))) \/
    ∃ row ∈ (e.den env).T, ∃ b v w1, (∀ ty, (Instr.next (.pointer (some ⟨p.block, p.base + 0, none⟩)) false ty).run P w = .ok (.tuple (Value.bool true :: [kk.dv (row.headD (.i 0)), v]).toArray) w1) /\
      (kk.dv (row.headD (.i 0)), b) ∈ kb /\ b ∉ seen /\ (∀ r2 ∈ (V.den env).T, kk.dv (r2.headD (.i 0)) ≠ kk.dv (row.headD (.i 0))) /\
      ∀ env' V', (V'.den env').T = (V.den env).T ++ [[row.headD (.i 0)]] -> HSat env' A ρ h w -> HSat env' A ρ (hput h kI (.itr m kk V')) w1) := by
  obtain ⟨p', q, s', kb', seen, i1, i2, i3, i4, i5, i6, i7, i8⟩ := H.objs kI _ hI; rw [hp] at i1; injection i1 with i1; subst i1; rw [hg] at i6; injection i6 with i6; injection i6 with i6 i6'; subst i6; subst i6'; obtain ⟨q', es, clk, h1, h2, h3, h4, h5, h6, h7, h8⟩ := H.objs m _ hM; rw [i5] at h1; injection h1 with h1; subst h1; obtain ⟨p'', s', kb', j1, j2, rfl, R⟩ := h8 kI rfl; rw [hp] at j1; injection j1 with j1; subst j1; rw [hg] at j2; injection j2 with j2; injection j2 with j2 j3; subst j2; subst j3; refine ⟨R.keys, R.born, seen.toList, i8, ?_⟩; have inkb : ∀ en ∈ es.toList, (en.key, en.born) ∈ kb := fun en he => R.sub.subset (List.mem_map.2 ⟨en, he, rfl⟩); have hcon : ∀ b, seen.contains b = true ↔ b ∈ seen.toList := fun b => by simp
  rw [i3]; have key : ∀ ty, _ := fun ty => run_next_at (P := P) w ty p.block q.block s s seen es s i7 h5 (fun x hx => h6.born x hx) (Nat.le_refl _)
  by_cases hz : (leftOf es seen).size = 0
  . left
    refine ⟨fun ty => ?_, fun row hrow => ?_⟩
    . rcases key ty with ⟨_, hr⟩ | ⟨en, hen, _⟩
      . exact hr
      . exfalso; have : leftOf es seen = #[] := Array.eq_empty_of_size_eq_zero hz; rw [this] at hen; simp at hen
    . obtain ⟨l7, hp7, h7⟩ := h7; obtain ⟨en, hen, hok⟩ := h7.bw row (hp7.mem_iff.2 hrow)
      have hs : en.born ∈ seen.toList := by
        have h0 : leftOf es seen = #[] := Array.eq_empty_of_size_eq_zero hz; unfold leftOf at h0; rw [Array.filter_eq_empty_iff] at h0; have := h0 en (by simpa using hen)
        exact (hcon _).1 (by simpa using this)
      obtain ⟨r2, g1, g2⟩ := i8.bw _ hs; refine ⟨r2, g1, ?_⟩; have := pw_eq R.born g2 (inkb en hen) rfl; injection this with this _; rw [this, hok.1]
  . right
    have hex : ∃ en ∈ (leftOf es seen).toList, ∃ w1 : World, (w1 = w \/ w1 = w.drew) /\ ∀ ty, (Instr.next (.pointer (some ⟨p.block, 0, none⟩)) false ty).run P w = .ok (.tuple #[.bool true, en.key, en.val]) (ChangeMaps.setBlock w1 p.block (.mapIter (some q.block) s (seen.push en.born) s)) := by
      have ty0 : ∀ ty ty', (Instr.next (.pointer (some ⟨p.block, 0, none⟩)) false ty).run P w = (Instr.next (.pointer (some ⟨p.block, 0, none⟩)) false ty').run P w := fun _ _ => rfl
      rcases key 0 with ⟨h0, _⟩ | ⟨en, hen, w1, hw, hr⟩
      . exact absurd h0 hz
      . exact ⟨en, hen, w1, hw, fun ty => (ty0 ty 0).trans hr⟩
    obtain ⟨en, hen, w1, hw, hr⟩ := hex
    have hen2 : en ∈ es.toList /\ en.born ∉ seen.toList := by
      unfold leftOf at hen; simp at hen; exact ⟨by simpa using hen.1, by simpa using hen.2⟩
    obtain ⟨l7, hp7, h7⟩ := h7; obtain ⟨row, hrow, hok⟩ := h7.fw en hen2.1; have hrow := hp7.mem_iff.1 hrow; have hkey := hok.1; refine ⟨row, hrow, en.born, en.val, _, fun ty => by rw [<- hkey]; exact hr ty, by rw [<- hkey]; exact inkb en hen2.1, hen2.2, fun r2 hr2 he => ?_, fun env' V' hV' H' => ?_⟩
    . obtain ⟨b2, g1, g2⟩ := i8.fw r2 hr2; rw [he, <- hkey] at g2; have := pw_eq R.keys g2 (inkb en hen2.1) rfl; injection this with _ this; exact hen2.2 (by rw [<- this]; exact g1)
    . have H2 : HSat env' A ρ h w1 := by
        rcases hw with rfl | rfl
        . exact H'
        . exact H'.drawn rfl rfl rfl rfl
      have hw1 : w1.heap = w.heap := by rcases hw with rfl | rfl <;> rfl
      have h77 : w1.heap[p.block]? = some (.mapIter (some q.block) s seen s) := by rw [hw1]; exact i7
      refine H2.update (b := .mapIter (some q.block) s (seen.push en.born) s) hI rfl hp rfl ⟨p, q, s, kb, seen.push en.born, hp, i2, i3, i4, i5, hg, setBlk_same h77, ?_⟩; rw [hV', Array.toList_push]; exact SeenAll.snoc (by rw [List.headD_cons, <- hkey]; exact inkb en hen2.1) i8
end
def E.noV (n : Nat) : E -> Bool
  | .v m => !(Nat.beq m n)
  | .il _ => true
  | .bl _ => true
  | .sl _ => true
  | .fn _ a => a.noV n
  | .uf _ a => a.noV n
  | .o1 _ a => a.noV n
  | .o2 _ a b => a.noV n && b.noV n
  | .ext s l h => s.noV n && (l.noV n && h.noV n)
def Off.noV (n : Nat) : Off -> Bool
  | .c _ => true
  | .el i _ _ => i.noV n
def FE.noV (n : Nat) : FE -> Bool
  | .l _ => true
  | .ofI e => e.noV n
  | .mul a b => a.noV n && b.noV n
mutual
def SV.noV (n : Nat) : SV -> Bool
  | .int _ e => e.noV n
  | .bool e => e.noV n
  | .str e => e.noV n
  | .flt e => e.noV n
  | .val _ i => i.noV n
  | .ptr _ o => o.noV n
  | .sl _ _ lo len => lo.noV n && len.noV n
  | .dsl _ e => e.noV n
  | .dslx _ e => e.noV n
  | .dptr _ e i _ => e.noV n && i.noV n
  | .apt _ i _ => i.noV n
  | .fn _ a c => SV.noVs n a && SV.noVs n c
  | .ifc _ x => SV.noV n x
  | .agg l => SV.noVs n l
  | .tup l => SV.noVs n l
  | _ => true
def SV.noVs (n : Nat) : List SV -> Bool
  | [] => true
  | x :: l => SV.noV n x && SV.noVs n l
end
def Col.noV (n : Nat) : Col -> Bool
  | .tc _ e _ => e.noV n
  | _ => true
def SObj.noV (n : Nat) : SObj -> Bool
  | .cells _ cs => SV.noVs n cs
  | .row _ _ len cols tail => len.noV n && (cols.all (Col.noV n) && tail.all (SV.noVs n))
  | .inp _ len cols => len.noV n && cols.all (Col.noV n)
  | .map _ ix _ sz known => ix.noV n && (sz.noV n && known.isEmpty)
  | .ar _ _ e => e.noV n
  | .dmp _ _ _ e _ => e.noV n
  | .itr _ _ V => V.noV n
  | .bag _ _ V => V.noV n
  | .chan c => c.noV n
  | .gone => true
  | _ => false
structure But (n : Nat) (e e' : Env) : Prop where
  v : ∀ m, m ≠ n -> e'.v m = e.v m
  fn : e'.fn = e.fn
  val : e'.val = e.val
  mp : e'.mp = e.mp
  uf : e'.uf = e.uf
section
variable {n : Nat} {e e' : Env} {ρ : PMap}
theorem E.den_noV (h : But n e e') : ∀ {x : E}, x.noV n = true -> x.den e' = x.den e := by
  intro x
  induction x with
  | v m =>
    intro hx; refine h.v m fun em => ?_; subst em; simp [E.noV] at hx
  | fn c a ih => intro hx; simp only [E.den, ih hx, h.fn]
  | uf c a ih => intro hx; simp only [E.den, ih hx, h.uf]
  | o1 o a ih => intro hx; simp only [E.den, ih hx]
  | o2 o a b i1 i2 => intro hx; simp only [E.noV, Bool.and_eq_true] at hx; simp only [E.den, i1 hx.1, i2 hx.2]
  | ext s a b i1 i2 i3 => intro hx; simp only [E.noV, Bool.and_eq_true] at hx; simp only [E.den, i1 hx.1, i2 hx.2.1, i3 hx.2.2]
  | _ => intro _; rfl
theorem Off.den_noV (h : But n e e') {x : Off} (hx : x.noV n = true) : x.den e' = x.den e := by
  cases x with
  | c j => rfl
  | el i s j => simp only [Off.den, E.den_noV h (x := i) hx]
theorem FE.den_noV (h : But n e e') : ∀ {x : FE}, x.noV n = true -> x.den e' = x.den e := by
  intro x
  induction x with
  | l b => intro _; rfl
  | ofI a => intro hx; simp only [FE.den, E.den_noV h (x := a) hx]
  | mul a b i1 i2 => intro hx; simp only [FE.noV, Bool.and_eq_true] at hx; simp only [FE.den, i1 hx.1, i2 hx.2]
mutual
theorem SV.rel_noV (h : But n e e') : ∀ {x : SV}, x.noV n = true -> ∀ v, x.Rel e' ρ v = x.Rel e ρ v
  | .int k a, hx, v => by simp only [SV.Rel, E.den_noV h (x := a) hx]
  | .bool a, hx, v => by simp only [SV.Rel, E.den_noV h (x := a) hx]
  | .str a, hx, v => by simp only [SV.Rel, E.den_noV h (x := a) hx]
  | .flt a, hx, v => by simp only [SV.Rel, FE.den_noV h (x := a) hx]
  | .val c i, hx, v => by simp only [SV.Rel, E.den_noV h (x := i) hx, h.val]
  | .nilp, hx, v => by simp only [SV.Rel]
  | .ptr m o, hx, v => by simp only [SV.Rel, Off.den_noV h (x := o) hx]
  | .anyp, hx, v => by simp only [SV.Rel]
  | .nilsl, hx, v => by simp only [SV.Rel]
  | .sl m s a b, hx, v => by simp only [SV.noV, Bool.and_eq_true] at hx; simp only [SV.Rel, E.den_noV h hx.1, E.den_noV h hx.2]
  | .dsl ks a, hx, v => by simp only [SV.Rel, E.den_noV h (x := a) hx]
  | .dslx ks a, hx, v => by simp only [SV.Rel, E.den_noV h (x := a) hx]
  | .dptr ks a i j, hx, v => by simp only [SV.noV, Bool.and_eq_true] at hx; simp only [SV.Rel, E.den_noV h hx.1, E.den_noV h hx.2]
  | .apt T i j, hx, v => by simp only [SV.Rel, E.den_noV h (x := i) hx]
  | .nilmap, hx, v => by simp only [SV.Rel]
  | .map m, hx, v => by simp only [SV.Rel]
  | .chan m, hx, v => by simp only [SV.Rel]
  | .nilch, hx, v => by simp only [SV.Rel]
  | .nilfn, hx, v => by simp only [SV.Rel]
  | .fn f a c, hx, v => by simp only [SV.noV, Bool.and_eq_true] at hx; simp only [SV.Rel, SV.rels_noV h hx.1, SV.rels_noV h hx.2]
  | .nilif, hx, v => by simp only [SV.Rel]
  | .ifc t x, hx, v => by simp only [SV.noV] at hx; simp only [SV.Rel, SV.rel_noV h hx]
  | .agg l, hx, v => by simp only [SV.noV] at hx; simp only [SV.Rel, SV.rels_noV h hx]
  | .tup l, hx, v => by simp only [SV.noV] at hx; simp only [SV.Rel, SV.rels_noV h hx]
  | .top, hx, v => by simp only [SV.Rel]
  | .cst u, hx, v => by simp only [SV.Rel]
theorem SV.rels_noV (h : But n e e') : ∀ {l : List SV}, SV.noVs n l = true -> ∀ vs, SV.Rels e' ρ l vs = SV.Rels e ρ l vs
  | [], hx, vs => by simp only [SV.Rels]
  | x :: l, hx, vs => by simp only [SV.noVs, Bool.and_eq_true] at hx; simp only [SV.Rels, SV.rel_noV h hx.1, SV.rels_noV h hx.2]
end
theorem dcellS_noV {x : E} (hx : x.noV n = true) (k : DK) : (dcellS k x).noV n = true := by
  cases k with
  | fp ks => simp only [dcellS, SV.noV, E.noV, hx, Bool.and_true]
  | ifc t k => simp only [dcellS, SV.noV]; exact dcellS_noV hx k
  | _ => first | exact hx | rfl
termination_by structural k
theorem Col.at_noV {c : Col} (hc : c.noV n = true) (i : Int) : (c.at (.il i)).noV n = true := by
  cases c with
  | tc k a j => exact dcellS_noV (x := .o2 (.cell j) a (.il i)) (by simp only [E.noV, Bool.and_true]; exact hc) k
  | _ => rfl
theorem SVs.noV_flatten : ∀ {l : List (List SV)}, l.all (SV.noVs n) = true -> SV.noVs n l.flatten = true
  | [], _ => rfl
  | a :: l, h => by
    simp only [List.all_cons, Bool.and_eq_true] at h
    have app : ∀ {x y : List SV}, SV.noVs n x = true -> SV.noVs n y = true -> SV.noVs n (x ++ y) = true := by
      intro x y hx hy
      induction x with
      | nil => exact hy
      | cons b x ih => simp only [SV.noVs, Bool.and_eq_true] at hx; simp only [List.cons_append, SV.noVs, Bool.and_eq_true]; exact ⟨hx.1, ih hx.2⟩
    rw [List.flatten_cons]; exact app h.1 (SVs.noV_flatten h.2)
theorem col_rel_noV (h : But n e e') {cols : List Col} (hc : cols.all (Col.noV n) = true) {j : Nat} {col : Col} (hj : cols[j]? = some col) (i : Int) (v : Value) : (col.at (.il i)).Rel e' ρ v = (col.at (.il i)).Rel e ρ v :=
  SV.rel_noV h (Col.at_noV (List.all_eq_true.1 hc _ (List.mem_of_getElem? hj)) i) v
theorem SObj.rel_noV (h : But n e e') {A : Anchor} {k : Nat} {o : SObj} {w : World} (ho : o.noV n = true) (r : o.Rel e A ρ k w) : o.Rel e' A ρ k w := by
  cases o with
  | cells T cs =>
    obtain ⟨p, vs, h1, h2, h3, h4, h5, h6⟩ := r; exact ⟨p, vs, h1, h2, h3, h4, by rw [SV.rels_noV h ho]; exact h5, h6⟩
  | row T sz len cols tail =>
    simp only [SObj.noV, Bool.and_eq_true] at ho; obtain ⟨p, vs, rest, h1, h2, h3, h4, ⟨base, tl, b1, b2, b3, b4, b5, b6⟩, h6, h7⟩ := r; have hl := E.den_noV h ho.1
    exact ⟨p, vs, rest, h1, h2, h3, h4, ⟨base, tl, b1, by rw [hl]; exact b2, fun i hi j col hj => by
      obtain ⟨v, v1, v2⟩ := b3 i (by rw [<- hl]; exact hi) j col hj
      exact ⟨v, v1, by rw [col_rel_noV h ho.2.1 hj]; exact v2⟩, by rw [SV.rels_noV h (SVs.noV_flatten ho.2.2)]; exact b4, b5, b6⟩, h6, h7⟩
  | inp sz len cols =>
    simp only [SObj.noV, Bool.and_eq_true] at ho; obtain ⟨p, h1, h2, h3, h4⟩ := r; have hl := E.den_noV h ho.1; refine ⟨p, h1, by rw [hl]; exact h2, h3, ?_⟩
    rcases h4 with ⟨ht, h4, h5⟩ | ⟨ht, h4, h6, h5⟩
    . refine .inl ⟨ht, h4, fun i hi j col hj => ?_⟩; obtain ⟨v, v1, v2⟩ := h5 i (by rw [<- hl]; exact hi) j col hj
      exact ⟨v, v1, by rw [col_rel_noV h ho.2 hj]; exact v2⟩
    . refine .inr ⟨ht, h4, h6, fun i hi j col hj => ?_⟩; obtain ⟨v, v1, v2⟩ := h5 i (by rw [<- hl]; exact hi) j col hj
      exact ⟨v, v1, by rw [col_rel_noV h ho.2 hj]; exact v2⟩
  | map m ix kk sz known =>
    simp only [SObj.noV, Bool.and_eq_true, List.isEmpty_iff] at ho; obtain ⟨o1, o2, rfl⟩ := ho; obtain ⟨p, es, clk, kv, h1, h2, h3, h4, h5, h6, h7, h8, h9⟩ := r; refine ⟨p, es, clk, kv, h1, h2, h3, h4, h5, h6, by rw [E.den_noV h o2]; exact h7, h8, fun q hq => ?_⟩
    rw [h9 q hq, E.den_noV h o1]
    congr 1
    unfold res; split
    . rfl
    . rw [h.mp]
  | ar T ks x => exact r
  | dmp kk ag ks x it =>
    obtain ⟨p, es, clk, h1, h2, h3, h4, h5, h6, h7, h8⟩ := r; exact ⟨p, es, clk, h1, h2, h3, h4, h5, h6, by rw [E.den_noV h (x := x) ho]; exact h7, h8⟩
  | itr m kk V =>
    obtain ⟨p, q, s, kb, seen, h1, h2, h3, h4, h5, h6, h7, h8⟩ := r; exact ⟨p, q, s, kb, seen, h1, h2, h3, h4, h5, h6, h7, by rw [E.den_noV h (x := V) ho]; exact h8⟩
  | bag T ks V =>
    obtain ⟨p, l, cs, h1, h2, h3, h4, h5, h6⟩ := r; exact ⟨p, l, cs, h1, h2, h3, h4, h5, by rw [E.den_noV h (x := V) ho]; exact h6⟩
  | chan c =>
    obtain ⟨p, room, buf, s, rr, t, h1, h2, h3, h4, h5⟩ := r; exact ⟨p, room, buf, s, rr, t, h1, h2, h3, h4, by rw [E.den_noV h (x := c) ho]; exact h5⟩
  | gone => trivial
  | _ => cases ho
theorem HSat.noV (h : But n e e') {A : Anchor} {c : CHeap} {w : World} (hc : c.all (fun x => x.2.noV n) = true) (H : HSat e A ρ (cden c) w) : HSat e' A ρ (cden c) w := by
  have mem : ∀ {m : Nat} {o : SObj}, hget (cden c) m = some o -> o.noV n = true := by
    intro m o hm
    have : ∀ {c : CHeap}, cget c m = some o -> c.all (fun x => x.2.noV n) = true -> o.noV n = true := by
      intro c
      induction c with
      | nil => intro h; cases h
      | cons y r ih =>
        intro h ha; obtain ⟨k, z⟩ := y; unfold cget at h; simp only [List.all_cons, Bool.and_eq_true] at ha; cases hb : Nat.beq k m with
        | true => rw [hb] at h; simp only [cond_true, Option.some.injEq] at h; subst h; exact ha.1
        | false => rw [hb] at h; exact ih h ha.2
    exact this hm hc
  refine ⟨H.below, fun m o hm => SObj.rel_noV h (mem hm) (H.objs m o hm), H.inj, ?_, H.fz⟩; refine ⟨fun m T ks x hm => ?_, H.ar.own, H.ar.apart, H.ar.inj, H.ar.fz, H.ar.stay⟩; have hx : x.noV n = true := mem hm; rw [E.den_noV h hx]; exact H.ar.cell m T ks x hm
theorem Sat.noV (h : But n e e') {A : Anchor} {c : CHeap} {fr : Fr} {nx : Nat} {a : Act} {w : World} (hc : c.all (fun x => x.2.noV n) = true) (hf : SV.noVs n fr.sl = true) (hd : ∀ ds, DRel e ρ fr.df ds -> DRel e' ρ fr.df ds) (hs : Sat e A ρ fr (cden c) nx a w) : Sat e' A ρ fr (cden c) nx a w := by
  exact ⟨hs.hs.noV h hc, by rw [SV.rels_noV h hf]; exact hs.sl, hd _ hs.df, hs.nx⟩
end
structure RgI where
  it : Nat
  m : Nat
  kI : Nat
  kk : KK
  kv : Nat
theorem rgC_loops {c r : Code} {it d1 d2 : Nat} (h : rgC c = some (it, d1, d2, r)) : loopsOf r = loopsOf c := by
  unfold rgC at h; split at h
  . rename_i rid ops dr r'; split at h
    . rename_i o1 o2 hops; split at h
      . rename_i it' d e1 e2 g1 g2 g3 g4 g5 g6; cases hb : (Nat.beq d e1 && !dr) with
        | false => rw [hb] at h; cases h
        | true =>
          rw [hb] at h; simp only [cond_true, Option.some.injEq, Prod.mk.injEq] at h; obtain ⟨_, _, _, rfl⟩ := h; simp [loopsOf]
      . cases h
    . cases h
  . cases h
namespace LoopY
def visD (vis : List Dv) : Dv :=
  match vis with
  | [] => .i 0
  | l => .t (l.map fun k => [k])
theorem visD_T (vis : List Dv) : (visD vis).T = vis.map fun k => [k] := by cases vis <;> rfl
theorem visD_snoc (vis : List Dv) (k : Dv) : visD (vis ++ [k]) = .t ((visD vis).T ++ [[k]]) := by
  rw [visD_T]; cases vis with
  | nil => rfl
  | cons a l => simp [visD]
section
variable (D : LoopY) (R : RgI)
def envR (e : Env) (u : Nat -> Value) (x y : Dv) : Env := { D.env e u 0 with v := fun n => if n = D.r then x else if n = R.kv then y else e.v n }
def snocE : E := .o2 .tcat (.v D.r) (.o2 .cel (.v R.kv) (.il 0))
def prR (n : Nat) : E := cond (Nat.beq n D.r) (D.snocE R) (.v n)
variable {D R}
theorem envR_0 {e : Env} {u : Nat -> Value} : D.envR R e u (visD []) (e.v R.kv) = D.env e u 0 := by
  unfold envR
  have : (fun n => if n = D.r then visD [] else if n = R.kv then e.v R.kv else e.v n) = (D.env e u 0).v := by
    funext n
    simp only [env]
    by_cases h : n = D.r
    . rw [if_pos h, if_pos h]; rfl
    . rw [if_neg h, if_neg h]
      by_cases h2 : n = R.kv
      . rw [if_pos h2, h2]
      . rw [if_neg h2]
  rw [this]
theorem nextR (hne : Nat.beq D.r R.kv = false) (e : Env) (u : Nat -> Value) (vis : List Dv) (y : Dv) : Nexts (D.envR R e u (visD vis) y) (D.envR R e u (visD (vis ++ [y])) y) (D.prR R) (fun _ => true) := by
  have hne' : ¬ R.kv = D.r := fun h => by rw [h] at hne; simp at hne
  refine ⟨fun n => ?_, rfl, fun _ _ _ => rfl, rfl, rfl⟩; unfold prR; cases hb : Nat.beq n D.r with
  | true =>
    obtain rfl := Nat.eq_of_beq_eq_true hb; simp only [cond_true, snocE, E.den, O2.den, envR, if_true, if_neg hne']; rw [visD_snoc]; rfl
  | false =>
    have : n ≠ D.r := fun e => by subst e; simp at hb
    simp only [cond_false, E.den, envR, if_neg this]
theorem nextRX (e : Env) (u : Nat -> Value) (vis : List Dv) : Nexts (D.envR R e u (visD vis) (e.v R.kv)) (D.env e u 0) D.prX (fun _ => true) := by
  refine ⟨fun n => ?_, rfl, fun _ _ _ => rfl, rfl, rfl⟩; unfold prX; cases hb : Nat.beq n D.r with
  | true => obtain rfl := Nat.eq_of_beq_eq_true hb; simp only [cond_true, E.den, env, if_true]; rfl
  | false =>
    have : n ≠ D.r := fun e => by subst e; simp at hb
    simp only [cond_false, E.den, env, envR, if_neg this]
    by_cases h2 : n = R.kv
    . rw [if_pos h2, h2]
    . rw [if_neg h2]
theorem butR (e : Env) (u : Nat -> Value) (x y y' : Dv) : But R.kv (D.envR R e u x y) (D.envR R e u x y') := ⟨fun m hm => by simp only [envR, if_neg hm], rfl, rfl, rfl, rfl⟩
end
def rgHead (D : LoopY) (R : RgI) (H : Head) : Option E :=
  match ovGet H.ov R.it, cget H.h R.kI, cget H.h R.m with
  | some (.ptr n (.c 0)), some (.itr m kk V), some (.dmp kk' _ _ e (some n')) => cond (Nat.beq n R.kI && Nat.beq m R.m && Nat.beq n' R.kI && kkSame R.kk kk && kkSame R.kk kk' && V.same (.v D.r)) (some e) none
  | _, _, _ => none
theorem rgHead_ok {D : LoopY} {R : RgI} {H : Head} {e : E} (h : rgHead D R H = some e) : ovGet H.ov R.it = some (.ptr R.kI (.c 0)) /\ cget H.h R.kI = some (.itr R.m R.kk (.v D.r)) /\ ∃ ag ks, cget H.h R.m = some (.dmp R.kk ag ks e (some R.kI)) := by
  unfold rgHead at h; split at h
  . rename_i n m kk V kk' ag ks e' n' g1 g2 g3; cases hb : (Nat.beq n R.kI && Nat.beq m R.m && Nat.beq n' R.kI && kkSame R.kk kk && kkSame R.kk kk' && V.same (.v D.r)) with
    | false => rw [hb] at h; cases h
    | true =>
      rw [hb] at h; simp only [cond_true, Option.some.injEq] at h; subst h; simp only [Bool.and_eq_true] at hb; obtain ⟨⟨⟨⟨⟨b1, b2⟩, b3⟩, b4⟩, b5⟩, b6⟩ := hb; obtain rfl := Nat.eq_of_beq_eq_true b1; obtain rfl := Nat.eq_of_beq_eq_true b2; obtain rfl := Nat.eq_of_beq_eq_true b3; obtain rfl := E.same_eq b6; rw [<- kkSame_eq b4] at g2; rw [<- kkSame_eq b5] at g3; exact ⟨g1, g2, ag, ks, g3⟩
  . cases h
def rgSl (D : LoopY) (H : Head) (u : Nat -> Value) (d1 d2 : Nat) (b : Bool) : List SV := putS (putS (mkSl (D.full H).ov u 0 D.N) (some d1) .top) (some d2) (.bool (.bl b))
def rgHp (D : LoopY) (R : RgI) (H : Head) (b : Bool) : CHeap := cond b (cput H.h R.kI (.itr R.m R.kk (D.snocE R))) H.h
def rgFs (D : LoopY) (R : RgI) (H : Head) (e : E) (b : Bool) : Facts := cond b ((leE (.il 0) (.o2 (.mf R.kk.q) e (.v R.kv)), true) :: H.fs) H.fs
def pathsR (P : Program) (D : LoopY) (R : RgI) (μ : Nat) (b : Bool) : Ex (List Leaf) :=
  match rgC (theLoop P D.f D.key), rgHead D R (D.hd μ) with
  | some (it, d1, d2, r), some e =>
    cond (Nat.beq it R.it && Nat.blt it D.N && Nat.blt d1 D.N && (!(Nat.beq D.r R.kv)) && (D.hd μ).h.all (fun x => x.2.noV R.kv) && SV.noVs R.kv (mkSl (D.full (D.hd μ)).ov (fun _ => .nilIface) 0 D.N))
      (exploreF P D.X D.fuel (.code D.f r ⟨rgSl D (D.hd μ) (fun _ => .nilIface) d1 d2 b, D.dfc⟩) (rgHp D R (D.hd μ) b) (D.hd μ).m D.np (rgFs D R (D.hd μ) e b) [])
      (.error (.msg "not a loop over a map as it is known"))
  | _, _ => .error (.msg "not a loop over a map")
def turnR (P : Program) (D : LoopY) (R : RgI) (nh : Nat) (q : Leaf) : Option (Facts × List Ob) :=
  match (D.modeL q.fr.sl).at q.h with
  | some μ' =>
    match autoL q (D.hd μ') with
    | some l =>
      match q.thawFor (D.kd P) (D.hd μ').ov (D.hd μ').h l with
      | some (q', ob) => cond (D.tgt μ' && Nat.beq (sig l q'.nx R.kI) R.kI) ((turnObl (D.prR R) (fun _ => true) q' (D.full (D.hd μ')) l D.fixed D.dfc).map fun es => (q.fs.take (q.fs.length - nh), pruneO q.fs (factsO (primeF (D.prR R) (D.mf μ')) ++ (q.vcs ++ (ob ++ es))))) none
      | none => none
    | none => none
  | none => none
def leafR (P : Program) (D : LoopY) (R : RgI) (nh : Nat) (b : Bool) (q : Leaf) : Option (Facts × List Ob) :=
  cond (Nat.beq q.fr.sl.length D.N) (cond (deadV q.vcs) (some (q.fs.take (q.fs.length - nh), [.e (.bl false)])) (cond b (match q.ex with | .normal => turnR P D R nh q | _ => none) (match q.ex with | .normal => none | _ => D.leafObl P nh q))) none
def allR (P : Program) (D : LoopY) (R : RgI) (nh : Nat) (b : Bool) : List Leaf -> Option (List (Facts × List Ob))
  | [] => some []
  | q :: r =>
    match leafR P D R nh b q, allR P D R nh b r with
    | some x, some l => some (x :: l)
    | _, _ => none
def oblR (P : Program) (D : LoopY) (R : RgI) (μ : Nat) (b : Bool) : Option (List (Facts × List Ob)) :=
  match pathsR P D R μ b with
  | .ok l => cond ((D.hd μ).h.all fun x => headObj x.2) (allR P D R (D.hd μ).fs.length b l) none
  | _ => none
theorem allR_mem {P : Program} {D : LoopY} {R : RgI} {nh : Nat} {b : Bool} : ∀ {l : List Leaf} {L : List (Facts × List Ob)}, allR P D R nh b l = some L -> ∀ q ∈ l, ∃ x ∈ L, leafR P D R nh b q = some x
  | [], L, _, q, hq => by cases hq
  | p :: r, L, h, q, hq => by
    unfold allR at h; split at h
    . rename_i x l hx hl; injection h with h; subst h; rcases List.mem_cons.1 hq with rfl | hq
      . exact ⟨x, List.mem_cons_self .., hx⟩
      . obtain ⟨y, hy, h2⟩ := allR_mem hl q hq; exact ⟨y, List.mem_cons_of_mem _ hy, h2⟩
    . cases h
theorem leafObl_exit {P : Program} {D : LoopY} {nh : Nat} {q : Leaf} {x : Facts × List Ob} (hdd : deadV q.vcs = false) (hex : q.ex ≠ .normal) (h : D.leafObl P nh q = some x) : (∀ env, q.fs.Hold env -> x.1.Hold env) /\
    ∃ ν l q' ob es xs, q.thawFor (D.kd P) (D.hx ν).ov (D.hx ν).h l = some (q', ob) /\ q.ex = D.exN ν /\ exitObl D.exitsZ ν = some xs /\ turnObl D.prX (fun _ => true) q' (D.full (D.hx ν)) l D.fixed D.dfc = some es /\ x.2 = pruneO q.fs (xs ++ (q.vcs ++ (ob ++ es))) := by
  have htk : ∀ env, q.fs.Hold env -> Facts.Hold env (q.fs.take (q.fs.length - nh)) := fun env hh e b hm => hh e b (List.mem_of_mem_take hm); unfold leafObl at h; cases hb : Nat.beq q.fr.sl.length D.N with
  | false => rw [hb] at h; cases h
  | true =>
    rw [hb] at h
    have hdl : D.deadL q = false := by
      unfold deadL; split
      . rename_i hn; exact absurd hn hex
      . exact hdd
    simp only [cond_true, hdl, cond_false] at h; split at h
    . rename_i ν hnu; split at h
      . rename_i l xs hl hxs; split at h
        . rename_i q' ob hth; cases hsm : exSame q.ex (D.exN ν) with
          | false => rw [hsm] at h; cases h
          | true =>
            rw [hsm] at h; simp only [cond_true] at h; rw [Option.map_eq_some_iff] at h; obtain ⟨es, h1, rfl⟩ := h; exact ⟨htk, ν, l, q', ob, es, xs, hth, exSame_eq hsm, hxs, h1, rfl⟩
        . cases h
      . cases h
    . cases h
theorem turnR_ok {P : Program} {D : LoopY} {R : RgI} {nh : Nat} {q : Leaf} {x : Facts × List Ob} (h : turnR P D R nh q = some x) : (∀ env, q.fs.Hold env -> x.1.Hold env) /\
    ∃ μ' l q' ob es, q.thawFor (D.kd P) (D.hd μ').ov (D.hd μ').h l = some (q', ob) /\ D.tgt μ' = true /\ sig l q'.nx R.kI = R.kI /\ turnObl (D.prR R) (fun _ => true) q' (D.full (D.hd μ')) l D.fixed D.dfc = some es /\ x.2 = pruneO q.fs (factsO (primeF (D.prR R) (D.mf μ')) ++ (q.vcs ++ (ob ++ es))) := by
  have htk : ∀ env, q.fs.Hold env -> Facts.Hold env (q.fs.take (q.fs.length - nh)) := fun env hh e b hm => hh e b (List.mem_of_mem_take hm); unfold turnR at h; split at h
  . rename_i μ' hmu; split at h
    . rename_i l hl; split at h
      . rename_i q' ob hth; cases htg : (D.tgt μ' && Nat.beq (sig l q'.nx R.kI) R.kI) with
        | false => rw [htg] at h; cases h
        | true =>
          rw [htg] at h; simp only [cond_true, Option.map_eq_some_iff] at h; obtain ⟨es, h1, rfl⟩ := h; rw [Bool.and_eq_true] at htg; exact ⟨htk, μ', l, q', ob, es, hth, htg.1, Nat.eq_of_beq_eq_true htg.2, h1, rfl⟩
      . cases h
    . cases h
  . cases h
theorem oblR_some {P : Program} {D : LoopY} {R : RgI} {μ : Nat} {b : Bool} {L : List (Facts × List Ob)} (h : oblR P D R μ b = some L) : ∃ it d1 d2 r e l, rgC (theLoop P D.f D.key) = some (it, d1, d2, r) /\ rgHead D R (D.hd μ) = some e /\
    it = R.it /\ it < D.N /\ d1 < D.N /\ Nat.beq D.r R.kv = false /\ (D.hd μ).h.all (fun x => x.2.noV R.kv) = true /\ SV.noVs R.kv (mkSl (D.full (D.hd μ)).ov (fun _ => .nilIface) 0 D.N) = true /\
    exploreF P D.X D.fuel (.code D.f r ⟨rgSl D (D.hd μ) (fun _ => .nilIface) d1 d2 b, D.dfc⟩) (rgHp D R (D.hd μ) b) (D.hd μ).m D.np (rgFs D R (D.hd μ) e b) [] = .ok l /\ ((D.hd μ).h.all fun x => headObj x.2) = true /\ allR P D R (D.hd μ).fs.length b l = some L := by
  unfold oblR at h; cases hp : pathsR P D R μ b with
  | error e => rw [hp] at h; cases h
  | ok l =>
    rw [hp] at h; simp only at h; unfold pathsR at hp; split at hp
    . rename_i it d1 d2 r e g1 g2; cases hc : (Nat.beq it R.it && Nat.blt it D.N && Nat.blt d1 D.N && (!(Nat.beq D.r R.kv)) && (D.hd μ).h.all (fun x => x.2.noV R.kv) && SV.noVs R.kv (mkSl (D.full (D.hd μ)).ov (fun _ => .nilIface) 0 D.N)) with
      | false => rw [hc] at hp; cases hp
      | true =>
        rw [hc] at hp; simp only [cond_true] at hp; simp only [Bool.and_eq_true, Bool.not_eq_true'] at hc; obtain ⟨⟨⟨⟨⟨c1, c2⟩, c3⟩, c4⟩, c6⟩, c7⟩ := hc; cases hb : (D.hd μ).h.all fun x => headObj x.2 with
        | false => rw [hb] at h; cases h
        | true =>
          rw [hb] at h; exact ⟨it, d1, d2, r, e, l, g1, g2, Nat.eq_of_beq_eq_true c1, Nat.le_of_ble_eq_true c2, Nat.le_of_ble_eq_true c3, c4, c6, c7, hp, rfl, h⟩
    . cases hp
def Comes (R : RgI) (e : E) (en : Env) (vis : List Dv) (k : Dv) : Prop := (∃ row ∈ (e.den en).T, row.headD (.i 0) = k) /\ ∀ k' ∈ vis, R.kk.dv k' ≠ R.kk.dv k
def Over (R : RgI) (e : E) (en : Env) (vis : List Dv) : Prop := ∀ row ∈ (e.den en).T, ∃ k ∈ vis, R.kk.dv k = R.kk.dv (row.headD (.i 0))
structure RoundsR (P : Program) (D : LoopY) (R : RgI) (env : Env) (μ0 : Nat) where
  mode : (Nat -> Value) -> List Dv -> Nat -> Prop
  L : Nat -> Bool -> List (Facts × List Ob)
  hX : ∀ vis y u A, ExtOk P (D.envR R env u (visD vis) y) A (D.X.toExt P)
  hob : ∀ u vis μ, mode u vis μ -> ∀ b, oblR P D R μ b = some (L μ b)
  hover : ∀ u vis μ e, mode u vis μ -> rgHead D R (D.hd μ) = some e -> Over R e (D.envR R env u (visD vis) (env.v R.kv)) vis ->
    ∀ x ∈ L μ false, x.1.Hold (D.envR R env u (visD vis) (env.v R.kv)) -> AllT (D.envR R env u (visD vis) (env.v R.kv)) x.2
  hstep : ∀ u vis μ e k, mode u vis μ -> rgHead D R (D.hd μ) = some e -> Comes R e (D.envR R env u (visD vis) k) vis k ->
    ∀ x ∈ L μ true, x.1.Hold (D.envR R env u (visD vis) k) -> AllT (D.envR R env u (visD vis) k) x.2
  hfs : ∀ u vis μ y, mode u vis μ -> (D.hd μ).fs.Hold (D.envR R env u (visD vis) y)
  hturn : ∀ u vis μ μ' e k, mode u vis μ -> rgHead D R (D.hd μ) = some e -> Comes R e (D.envR R env u (visD vis) k) vis k -> D.tgt μ' = true -> (D.mf μ').Hold (D.envR R env u (visD (vis ++ [k])) k) ->
    ∃ μ2, mode u (vis ++ [k]) μ2 /\ SameH (D.hd μ2) (D.hd μ')
  hm0 : ∀ u, (D.mf μ0).Hold (D.env env u 0) -> ∃ μ2, mode u [] μ2 /\ SameH (D.hd μ2) (D.hd μ0)
def left (kb : List (Value × Nat)) (seen : List Nat) : Nat := (kb.filter fun x => !seen.contains x.2).length
theorem left_lt {kb : List (Value × Nat)} {seen : List Nat} {v : Value} {b : Nat} (h : (v, b) ∈ kb) (hb : b ∉ seen) : left kb (seen ++ [b]) < left kb seen := by
  unfold left
  induction kb with
  | nil => cases h
  | cons x r ih =>
    have le : (r.filter fun x => !(seen ++ [b]).contains x.2).length <= (r.filter fun x => !seen.contains x.2).length := by
      clear ih h
      induction r with
      | nil => exact Nat.le_refl _
      | cons y t ih =>
        simp only [List.filter_cons]
        by_cases h1 : y.2 ∈ seen
        . simp [h1]; simpa using ih
        . by_cases h2 : y.2 = b
          . simp [h1, h2, hb]; have := ih; simp at this; omega
          . simp [h1, h2]; simpa using ih
    simp only [List.filter_cons]; rcases List.mem_cons.1 h with e | h
    . subst e; simp [hb]; have := le; simp at this; omega
    . have := ih h
      by_cases h1 : x.2 ∈ seen
      . simp [h1]; simpa using this
      . by_cases h2 : x.2 = b
        . simp [h1, h2, hb]; have := le; simp at this; omega
        . simp [h1, h2]; simpa using this
theorem KQ.eq_self (q : KQ) (d : Dv) : q.eq d d = true := by cases q <;> simp [KQ.eq]
theorem mfind_mem {q : KQ} {k : Dv} : ∀ {l : List (List Dv)}, (∃ row ∈ l, row.headD (.i 0) = k) -> 0 <= mfindI q k l := by
  intro l h
  have : ∃ j, mfind q k l = some j := by
    induction l with
    | nil => obtain ⟨_, h, _⟩ := h; cases h
    | cons x r ih =>
      unfold mfind; cases hx : q.eq (x.headD (.i 0)) k with
      | true => exact ⟨0, rfl⟩
      | false =>
        obtain ⟨row, hm, hk⟩ := h; rcases List.mem_cons.1 hm with e | hm
        . rw [<- e, hk, KQ.eq_self] at hx; cases hx
        . obtain ⟨j, hj⟩ := ih ⟨row, hm, hk⟩; exact ⟨j + 1, by rw [hj]; rfl⟩
  obtain ⟨j, hj⟩ := this; unfold mfindI; rw [hj]; exact Int.natCast_nonneg j
theorem compR {P : Program} (hP : Plain P) (hM : P.follows .mixedOrders = true) {D : LoopY} {R : RgI} (hbody : ((P.funcs[D.f]?).bind (·.body)).isSome = true) {e : Env} {μ0 : Nat} (X : RoundsR P D R e μ0) (hxobj : ∀ ν, ((D.hx ν).h.all fun x => headObj x.2) = true)
    {u : Nat -> Value} {μ1 : Nat} (hm1 : X.mode u [] μ1) : Runs P D e u μ1 := by
  intro A ρ0 a w Q hs hexit; obtain ⟨it0, d10, d20, r0, e0, l0, k1, k2, k3, k4, k5, k6, k8, k9, k10, k11, k12⟩ := oblR_some (X.hob u [] μ1 hm1 false); obtain ⟨o1, o2, ag, ks, o3⟩ := rgHead_ok k2; obtain ⟨p0, q0, s, kb, seen0, i1, i2, i3, i4, i5, i6, i7, i8⟩ := hs.hs.objs R.kI _ o2; have hr0 : (D.env e u 0).v D.r = .i 0 := by simp [env]
  let I : Nat -> Act -> World -> Prop := fun r a' w' => ∃ vis y μ ρ seen, X.mode u vis μ /\ SeenAll R.kk kb (vis.map fun k => [k]) seen /\ left kb seen <= r /\ ρ R.kI = some p0 /\ ((∀ k ∈ D.fixed, ∀ p, ρ0 k = some p -> ρ k = some p) /\ Fz.le ρ0.fz ρ.fz) /\
    Sat (D.envR R e u (visD vis) y) A ρ ⟨mkSl (D.full (D.hd μ)).ov u 0 D.N, D.dfc⟩ (cden (D.hd μ).h) (D.hd μ).m a' w'
  refine loop_inv I ?_ (left kb []) a w ⟨[], e.v R.kv, μ1, ρ0, [], hm1, .nil, Nat.le_refl _, i1, ⟨fun _ _ _ h => h, Fz.le_refl _⟩, by rw [envR_0]; exact hs⟩
  clear k1 k2 k3 k4 k5 k8 k9 k10 k11 k12 o1 o2 o3 it0 d10 d20 r0 e0 l0; rintro r a' w' ⟨vis, y, μ, ρ, seen, hmode, hseen, hleft, hpI, hfix, hsat⟩
  have go : ∀ b, ∃ d1 d2 rest ex l, rgC (theLoop P D.f D.key) = some (R.it, d1, d2, rest) /\ rgHead D R (D.hd μ) = some ex /\ d1 < D.N /\ R.it < D.N /\ (D.hd μ).h.all (fun x => x.2.noV R.kv) = true /\ SV.noVs R.kv (mkSl (D.full (D.hd μ)).ov u 0 D.N) = true /\
      exploreF P D.X D.fuel (.code D.f rest ⟨rgSl D (D.hd μ) u d1 d2 b, D.dfc⟩) (rgHp D R (D.hd μ) b) (D.hd μ).m D.np (rgFs D R (D.hd μ) ex b) [] = .ok l /\ ((D.hd μ).h.all fun x => headObj x.2) = true /\ allR P D R (D.hd μ).fs.length b l = some (X.L μ b) := by
    intro b; obtain ⟨it, d1, d2, rest, ex, l, k1, k2, rfl, k4, k5, k6, k8, k9, k10, k11, k12⟩ := oblR_some (X.hob u vis μ hmode b); refine ⟨d1, d2, rest, ex, l, k1, k2, k5, k4, k8, ?_, ?_, k11, k12⟩
    . unfold full fullH; simp only; rw [mkSl_indep u (fun _ => .nilIface)]; exact k9
    . have e1 : rgSl D (D.hd μ) u d1 d2 b = rgSl D (D.hd μ) (fun _ => .nilIface) d1 d2 b := by unfold rgSl full fullH; simp only; rw [mkSl_indep u (fun _ => .nilIface)]
      rw [e1]; exact k10
  obtain ⟨d1, d2, rest, ex, lo, k1, k2, hd1, hit, nv1, nv2, xo, hobj, ao⟩ := go false; obtain ⟨d1', d2', rest', ex', ls, k1', k2', _, _, _, _, xs, _, as⟩ := go true; rw [k1] at k1'; injection k1' with k1'; injection k1' with _ k1'; injection k1' with z1 k1'; injection k1' with z2 z3; subst z1; subst z2; subst z3; rw [k2] at k2'; injection k2' with k2'; subst k2'; clear go; obtain ⟨o1, o2, ag, ks, o3⟩ := rgHead_ok k2; obtain ⟨hkeys, hborn, seenW, hsW, hnext⟩ := hsat.hs.next (kI := R.kI) (m := R.m) o2 o3 hpI i6
  have hVT : ∀ y, ((E.v D.r).den (D.envR R e u (visD vis) y)).T = vis.map fun k => [k] := fun y => by simp only [E.den, envR, if_true, visD_T]
  rw [hVT] at hsW; obtain rfl := SeenAll.inj hkeys hsW hseen
  have hexnv : ex.noV R.kv = true := by
    have := List.all_eq_true.1 nv1 (R.m, .dmp R.kk ag ks ex (some R.kI)) (by
      have : ∀ {c : CHeap} {n : Nat} {o : SObj}, cget c n = some o -> (n, o) ∈ c := by
        intro c
        induction c with
        | nil => intro n o h; cases h
        | cons z t ih =>
          intro n o h; obtain ⟨k, z⟩ := z; unfold cget at h; cases hb : Nat.beq k n with
          | true => rw [hb] at h; simp only [cond_true, Option.some.injEq] at h; subst h; rw [Nat.eq_of_beq_eq_true hb]; exact List.mem_cons_self ..
          | false => rw [hb] at h; exact List.mem_cons_of_mem _ (ih h)
      exact this o3)
    exact this
  have hexd : ∀ y', ex.den (D.envR R e u (visD vis) y') = ex.den (D.envR R e u (visD vis) y) := fun y' => E.den_noV (butR e u _ y y') hexnv; have hinb : InBody P D.f (loopsOf rest) := by rw [rgC_loops k1]; exact inBody_theLoop D.key hbody
  have hsz : a'.tmps.size = D.N := by have := hsat.sl.length; rw [mkSl_length] at this; simpa using this
  have hev : a'.eval (.tmp R.it) = .pointer (some ⟨p0.block, p0.base + 0, none⟩) := by
    have hg : (mkSl (D.full (D.hd μ)).ov u 0 D.N)[R.it]? = some (.ptr R.kI (.c 0)) := by
      rw [mkSl_get D.N 0 R.it hit, Nat.zero_add]; unfold full fullH fullOv; simp only; rw [ovGet_append, o1]
    obtain ⟨v, hv, hr⟩ := hsat.sl.get hg; simp only [SV.Rel] at hr; obtain ⟨p, hp, rfl⟩ := hr; rw [hpI] at hp; injection hp with hp; subst hp; unfold Act.eval; simp only [Array.getD_eq_getD_getElem?]; rw [<- Array.getElem?_toList, hv]; rfl
  have hobjs : ∀ {vis μ}, X.mode u vis μ -> ((D.hd μ).h.all fun x => headObj x.2) = true := fun hm => by
    obtain ⟨_, _, _, _, _, _, _, _, _, _, _, _, _, _, _, h, _⟩ := oblR_some (X.hob u _ _ hm false); exact h
  rcases hnext with ⟨hrun, hov⟩ | ⟨row, hrow, b, v, w1, hrun, hkb, hbs, hnew, hput⟩
  ·
    refine wp_next2 k1 (by rw [hsz]; exact hd1) (fun ty => by rw [hev]; exact hrun ty) ?_
    have hsat' := Sat.noV (butR e u (visD vis) y (e.v R.kv)) nv1 nv2 (fun ds h => mkDf_re (e := D.envR R e u (visD vis) y) (e' := D.envR R e u (visD vis) (e.v R.kv)) (fun _ _ => rfl) h) hsat
    have hO : Over R ex (D.envR R e u (visD vis) (e.v R.kv)) vis := fun row hrow => by
      rw [hexd] at hrow; obtain ⟨r2, h1, h2⟩ := hov row hrow; rw [hVT] at h1; obtain ⟨k, hk, rfl⟩ := List.mem_map.1 h1; exact ⟨k, hk, h2⟩
    refine wp_of_exploreF hP hM (X.hX vis (e.v R.kv) u A) hinb xo (X.hfs u vis μ _ hmode) (ρ := ρ) ⟨hsat'.hs, (rels_put (dst := some d2) (x := .bool (.bl false)) (v := .bool false) (rels_put (dst := some d1) (x := .top) (v := .tuple (Value.bool false :: []).toArray) hsat'.sl trivial) rfl), by rw [put_defers, put_defers]; exact hsat'.df, hsat'.nx⟩ fun q hq hqf => ?_
    obtain ⟨x, hxL, hx⟩ := allR_mem ao q hq; unfold leafR at hx; cases hln : Nat.beq q.fr.sl.length D.N with
    | false => rw [hln] at hx; cases hx
    | true =>
    rw [hln] at hx; have hfx0 : Facts.Hold (D.envR R e u (visD vis) (e.v R.kv)) (q.fs.take (q.fs.length - (D.hd μ).fs.length)) := fun e t hm => hqf e t (List.mem_of_mem_take hm); cases hdd : deadV q.vcs with
    | true =>
      rw [hdd, cond_true, cond_true] at hx; injection hx with hx; subst hx; exact (deadV_false (vcs := [.e (.bl false)]) rfl (X.hover u vis μ ex hmode k2 hO _ hxL hfx0)).elim
    | false =>
    rw [hdd] at hx; simp only [cond_true, cond_false] at hx; have hex : q.ex ≠ .normal := fun h => by rw [h] at hx; cases hx
    have hx : D.leafObl P (D.hd μ).fs.length q = some x := by
      split at hx
      . cases hx
      . exact hx
    obtain ⟨hfx, ν, l, q', ob, es, xs', hth, h1, h2, h3, h4⟩ := leafObl_exit hdd hex hx; have ht := X.hover u vis μ ex hmode k2 hO x hxL (hfx _ hqf); rw [h4] at ht; have ht := pruneO_ok hqf ht; obtain ⟨t0, ht⟩ := allT_append.1 ht; obtain ⟨t5, ht⟩ := allT_append.1 ht; obtain ⟨t3, t4⟩ := allT_append.1 ht; refine ⟨t5, fun ρ' a2 w2 hle hs2 => ?_⟩; have hT := Leaf.thawFor_ok hth t3; obtain ⟨ρ3, hle3, hs3⟩ := hT.sat A ρ' a2 w2 hs2; have T := turnObl_ok (u := fun _ => .nilIface) (nextRX e u vis) (D.dfc_dv (nextRX e u vis)) h3 t4; obtain ⟨ys, hy1, hy2⟩ := exitObl_prime (nextRX e u vis) h2 t0; have S := sat_turn hs3 T.ov T.hp (hxobj ν) T.inj T.lt T.df T.dv (hT.len.trans (Nat.eq_of_beq_eq_true hln)) T.ars
    have hq : Q (D.exN ν).den a2 w2 := hexit ν (ρ3.re (sig l q'.nx)) a2 w2 ⟨ys, hy1, hy2⟩ ⟨fun k hk p hp => by
      show ρ3 (sig l q'.nx k) = some p; rw [T.fixed k hk]
      exact hle3 k p (hle k p (hfix.1 k hk p hp)), Fz.le_trans hfix.2 (Fz.le_trans hle.fz hle3.fz)⟩ (by
        have e : mkSl (D.full (D.hx ν)).ov (fun j => (a2.tmps.toList[j]?).getD undef) 0 D.N = mkSl (D.full (D.hx ν)).ov (fun _ => .nilIface) 0 D.N := mkSl_indep _ _; rw [e] at S
        exact S)
    rw [<- h1] at hq; cases hqe : q.ex with
    | normal => exact absurd hqe hex
    | exit m => rw [hqe] at hq; exact hq
    | ret => rw [hqe] at hq; exact hq
  ·
    refine wp_next2 k1 (by rw [hsz]; exact hd1) (fun ty => by rw [hev]; exact hrun ty) ?_
    generalize hkd : row.headD (.i 0) = k at *; have hsat' := Sat.noV (butR e u (visD vis) y k) nv1 nv2 (fun ds h => mkDf_re (e := D.envR R e u (visD vis) y) (e' := D.envR R e u (visD vis) k) (fun _ _ => rfl) h) hsat; have hC : Comes R ex (D.envR R e u (visD vis) k) vis k := ⟨⟨row, by rw [hexd]; exact hrow, hkd⟩, fun k' hk' => hnew [k'] (by rw [hVT]; exact List.mem_map.2 ⟨k', hk', rfl⟩)⟩
    have hne' : ¬ R.kv = D.r := fun h => by rw [h] at k6; simp at k6
    have hsn : ((D.snocE R).den (D.envR R e u (visD vis) k)).T = ((E.v D.r).den (D.envR R e u (visD vis) y)).T ++ [[k]] := by
      rw [hVT]; show ((E.v D.r).den (D.envR R e u (visD vis) k)).T ++ _ = _; rw [hVT]; simp only [E.den, O2.den, envR, if_neg hne', if_true]; rfl
    have hH := hput _ (D.snocE R) hsn hsat'.hs
    have hhp : HSat (D.envR R e u (visD vis) k) A ρ (cden (rgHp D R (D.hd μ) true)) w1 := by
      show HSat _ _ _ (cden (cput (D.hd μ).h R.kI (.itr R.m R.kk (D.snocE R)))) _; rw [cden_cput]; exact hH
    have hfs : (rgFs D R (D.hd μ) ex true).Hold (D.envR R e u (visD vis) k) := by
      refine Facts.hold_cons ?_ (X.hfs u vis μ k hmode); rw [B_leE, I_il]; refine decide_eq_true ?_; show 0 <= mfindI R.kk.q ((E.v R.kv).den _) (ex.den _).T; have : (E.v R.kv).den (D.envR R e u (visD vis) k) = k := by simp only [E.den, envR, if_neg hne', if_true]
      rw [this]; exact mfind_mem hC.1
    refine wp_of_exploreF hP hM (X.hX vis k u A) hinb xs hfs (ρ := ρ) ⟨hhp, (rels_put (dst := some d2) (x := .bool (.bl true)) (v := .bool true) (rels_put (dst := some d1) (x := .top) (v := .tuple (Value.bool true :: [R.kk.dv k, v]).toArray) hsat'.sl trivial) rfl), by rw [put_defers, put_defers]; exact hsat'.df, hsat'.nx⟩ fun q hq hqf => ?_
    obtain ⟨x, hxL, hx⟩ := allR_mem as q hq; unfold leafR at hx; cases hln : Nat.beq q.fr.sl.length D.N with
    | false => rw [hln] at hx; cases hx
    | true =>
    rw [hln] at hx; have hfx0 : Facts.Hold (D.envR R e u (visD vis) k) (q.fs.take (q.fs.length - (D.hd μ).fs.length)) := fun e t hm => hqf e t (List.mem_of_mem_take hm); cases hdd : deadV q.vcs with
    | true =>
      rw [hdd, cond_true, cond_true] at hx; injection hx with hx; subst hx; exact (deadV_false (vcs := [.e (.bl false)]) rfl (X.hstep u vis μ ex k hmode k2 hC _ hxL hfx0)).elim
    | false =>
    rw [hdd] at hx; simp only [cond_true, cond_false] at hx; cases hqe : q.ex with
    | exit m => rw [hqe] at hx; cases hx
    | ret => rw [hqe] at hx; cases hx
    | normal =>
    rw [hqe] at hx; simp only at hx; obtain ⟨hfx, μ', l, q', ob, es, hth, htg, hsg, h1, h2⟩ := turnR_ok hx; have ht := X.hstep u vis μ ex k hmode k2 hC x hxL (hfx _ hqf); rw [h2] at ht; have ht := pruneO_ok hqf ht; obtain ⟨t0, ht⟩ := allT_append.1 ht; obtain ⟨t5, ht⟩ := allT_append.1 ht; obtain ⟨t3, t4⟩ := allT_append.1 ht; refine ⟨t5, fun ρ' a2 w2 hle hs2 => ?_⟩; obtain ⟨μ2, hm2, hsame⟩ := X.hturn u vis μ μ' ex k hmode k2 hC htg (primeF_ok (nextR k6 e u vis k) (factsO_ok t0)); have hT := Leaf.thawFor_ok hth t3; obtain ⟨ρ3, hle3, hs3⟩ := hT.sat A ρ' a2 w2 hs2; have T := (hsame.full D.base D.N D.js).turns (turnObl_ok (u := u) (nextR k6 e u vis k) (D.dfc_dv (nextR k6 e u vis k)) h1 t4); have S := sat_turn hs3 T.ov T.hp (hobjs hm2) T.inj T.lt T.df T.dv (hT.len.trans (Nat.eq_of_beq_eq_true hln)) T.ars; have hlt := left_lt hkb hbs; show ∃ m, r = m + 1 /\ I m a2 w2; refine ⟨r - 1, by omega, vis ++ [k], k, μ2, ρ3.re (sig l q'.nx), seenW ++ [b], hm2, by rw [List.map_append]; exact SeenAll.snoc (by rw [List.headD_cons]; exact hkb) hseen, by omega, (by show ρ3 (sig l q'.nx R.kI) = some p0; rw [hsg]; exact hle3 _ _ (hle _ _ hpI)), ⟨fun k hk p hp => ?_, Fz.le_trans hfix.2 (Fz.le_trans hle.fz hle3.fz)⟩, ?_⟩
    . show ρ3 (sig l q'.nx k) = some p; rw [T.fixed k hk]; exact hle3 k p (hle k p (hfix.1 k hk p hp))
    . have e : mkSl (D.full (D.hd μ2)).ov (fun j => (a2.tmps.toList[j]?).getD undef) 0 D.N = mkSl (D.full (D.hd μ2)).ov u 0 D.N := mkSl_indep _ _; rw [<- e]; exact S
theorem lp_okR {P : Program} (hP : Plain P) (hM : P.follows .mixedOrders = true) {D : LoopY} {R : RgI} (hbody : ((P.funcs[D.f]?).bind (·.body)).isSome = true) {env : Env}
    (hR : ∀ e', Like D env e' -> ∀ μ0, D.ok0 μ0 = true -> (D.ent μ0).Hold e' -> Nonempty (RoundsR P D R e' μ0)) (hxobj : ∀ ν, ((D.hx ν).h.all fun x => headObj x.2) = true) : LpOk P env D.f D.key D.lpP := by
  refine lp_core (fun e' he μ0 h0 hent u hmf => ?_) hxobj; obtain ⟨X⟩ := hR e' he μ0 h0 hent; obtain ⟨μ2, hm, hs⟩ := X.hm0 u hmf; exact ⟨μ2, hs, compR hP hM hbody X hxobj hm⟩
end LoopY
theorem hold_cons_iff {env : Env} {x : E} {b : Bool} {fs : Facts} : Facts.Hold env ((x, b) :: fs) ↔ (x.den env).B = b /\ Facts.Hold env fs :=
  ⟨fun h => ⟨h x b (List.mem_cons_self ..), fun y c hm => h y c (List.mem_cons_of_mem _ hm)⟩, fun h => Facts.hold_cons h.1 h.2⟩
theorem hold_nil_iff {env : Env} : Facts.Hold env [] ↔ True := ⟨fun _ => trivial, fun _ x b hx => by cases hx⟩
theorem allT_cons {env : Env} {x : Ob} {l : List Ob} : AllT env (x :: l) ↔ x.den env /\ AllT env l :=
  ⟨fun h => ⟨h x (List.mem_cons_self ..), fun y hm => h y (List.mem_cons_of_mem _ hm)⟩, fun h y hm => (List.mem_cons.1 hm).elim (fun e => e ▸ h.1) (h.2 y)⟩
theorem allT_nil {env : Env} : AllT env [] ↔ True := ⟨fun _ => trivial, fun _ x hx => by cases hx⟩
def AllL (env : Env) : List (Facts × List Ob) -> Prop
  | [] => True
  | x :: r => (x.1.Hold env -> AllT env x.2) /\ AllL env r
theorem allL_mem {env : Env} : ∀ {L : List (Facts × List Ob)}, AllL env L -> ∀ x ∈ L, x.1.Hold env -> AllT env x.2
  | [], _, x, hx => by cases hx
  | y :: r, h, x, hx => by
    rcases List.mem_cons.1 hx with rfl | hx
    . exact h.1
    . exact allL_mem h.2 x hx
theorem allL_cons {env : Env} {f : Facts} {l : List Ob} {r : List (Facts × List Ob)} : AllL env ((f, l) :: r) ↔ (f.Hold env -> AllT env l) /\ AllL env r := Iff.rfl
theorem allL_nil {env : Env} : AllL env [] ↔ True := Iff.rfl
theorem ob_e {env : Env} {x : E} : (Ob.e x).den env ↔ (x.den env).B = true := Iff.rfl
theorem dB_lt {env : Env} {a b : E} : ((E.o2 .lt a b).den env).B = decide ((a.den env).I < (b.den env).I) := id rfl
theorem dB_le {env : Env} {a b : E} : ((E.o2 .le a b).den env).B = decide ((a.den env).I <= (b.den env).I) := id rfl
theorem dB_ieq {env : Env} {a b : E} : ((E.o2 .ieq a b).den env).B = decide ((a.den env).I = (b.den env).I) := by
  show ((a.den env).I == (b.den env).I) = _
  by_cases h : (a.den env).I = (b.den env).I <;> simp [h]
theorem dB_beq {env : Env} {a b : E} : ((E.o2 .beq a b).den env).B = ((a.den env).B == (b.den env).B) := id rfl
theorem dB_seq {env : Env} {a b : E} : ((E.o2 .seq a b).den env).B = ((a.den env).S.toList == (b.den env).S.toList) := id rfl
theorem dB_and {env : Env} {a b : E} : ((E.o2 .and a b).den env).B = ((a.den env).B && (b.den env).B) := id rfl
theorem dB_or {env : Env} {a b : E} : ((E.o2 .or a b).den env).B = ((a.den env).B || (b.den env).B) := id rfl
theorem dB_not {env : Env} {a : E} : ((E.o1 .not a).den env).B = !(a.den env).B := id rfl
theorem dB_bl {env : Env} {b : Bool} : ((E.bl b).den env).B = b := id rfl
theorem dI_il {env : Env} {z : Int} : ((E.il z).den env).I = z := id rfl
theorem dI_add {env : Env} {a b : E} : ((E.o2 .add a b).den env).I = (a.den env).I + (b.den env).I := id rfl
theorem dI_sub {env : Env} {a b : E} : ((E.o2 .sub a b).den env).I = (a.den env).I - (b.den env).I := id rfl
theorem dI_mul {env : Env} {a b : E} : ((E.o2 .mul a b).den env).I = (a.den env).I * (b.den env).I := id rfl
theorem dI_mn {env : Env} {a b : E} : ((E.o2 .mn a b).den env).I = if (b.den env).I < (a.den env).I then (b.den env).I else (a.den env).I := id rfl
theorem dI_mx {env : Env} {a b : E} : ((E.o2 .mx a b).den env).I = if (b.den env).I > (a.den env).I then (b.den env).I else (a.den env).I := id rfl
theorem dI_size {env : Env} {a : E} : ((E.o1 .size a).den env).I = ((a.den env).S.size : Int) := id rfl
theorem dS_sl {env : Env} {s : List UInt8} : ((E.sl s).den env).S = ⟨s.toArray⟩ := id rfl
theorem d_v {env : Env} {n : Nat} : (E.v n).den env = env.v n := id rfl
theorem I_i (z : Int) : (Dv.i z).I = z := id rfl
theorem B_b (z : Bool) : (Dv.b z).B = z := id rfl
theorem S_s (z : ByteArray) : (Dv.s z).S = z := id rfl
def stop (bad : Nat -> Bool) : Nat -> Nat
  | 0 => 0
  | n + 1 => if bad 0 then 0 else stop (fun j => bad (j + 1)) n + 1
theorem stop_le {bad : Nat -> Bool} : ∀ {n : Nat}, stop bad n <= n
  | 0 => Nat.le_refl _
  | n + 1 => by
    unfold stop; split
    . exact Nat.zero_le _
    . have := stop_le (bad := fun j => bad (j + 1)) (n := n); omega
theorem stop_before {bad : Nat -> Bool} : ∀ {n j : Nat}, j < stop bad n -> bad j = false
  | 0, j, h => by simp [stop] at h
  | n + 1, j, h => by
    unfold stop at h; split at h
    . omega
    . rename_i h0; cases j with
      | zero => simpa using h0
      | succ j => exact stop_before (bad := fun j => bad (j + 1)) (n := n) (j := j) (by omega)
theorem stop_at {bad : Nat -> Bool} : ∀ {n : Nat}, stop bad n < n -> bad (stop bad n) = true
  | 0, h => by omega
  | n + 1, h => by
    unfold stop at h ⊢; split at h
    . rename_i h0; rw [if_pos h0]; exact h0
    . rename_i h0; rw [if_neg h0]; exact stop_at (bad := fun j => bad (j + 1)) (n := n) (by omega)
def cc (l : List Dv) (k : Nat) : Dv := (l[k]?).getD (.i 0)
def row (d : Dv) (i : Nat) : List Dv := (d.T[i]?).getD []
def pk (l : List E) : E := l.foldr (fun a b => .o2 .cel a b) (.il 0)
theorem d_cel {env : Env} {a b : E} : (E.o2 .cel a b).den env = O2.den .cel (a.den env) (b.den env) := id rfl
theorem d_il {env : Env} {z : Int} : (E.il z).den env = .i z := id rfl
theorem d_bl {env : Env} {z : Bool} : (E.bl z).den env = .b z := id rfl
theorem d_sl {env : Env} {s : List UInt8} : (E.sl s).den env = .s ⟨s.toArray⟩ := id rfl
theorem d_uf {env : Env} {c : Nat} {a : E} : (E.uf c a).den env = env.uf c (a.den env) := id rfl
theorem d_cell {env : Env} {j : Nat} {a b : E} : (E.o2 (.cell j) a b).den env = cc (row (a.den env) (b.den env).I.toNat) j := id rfl
theorem d_add {env : Env} {a b : E} : (E.o2 .add a b).den env = .i ((a.den env).I + (b.den env).I) := id rfl
theorem dI_tlen {env : Env} {a : E} : ((E.o1 .tlen a).den env).I = ((a.den env).T.length : Int) := id rfl
theorem d_tlen {env : Env} {a : E} : (E.o1 .tlen a).den env = .i ((a.den env).T.length : Int) := id rfl
theorem dI_rem {env : Env} {a b : E} : ((E.o2 .rem a b).den env).I = (a.den env).I.tmod (b.den env).I := id rfl
theorem d_take {env : Env} {a b : E} : (E.o2 .ttake a b).den env = .t ((a.den env).T.take (b.den env).I.toNat) := id rfl
theorem dT_take {env : Env} {a b : E} : ((E.o2 .ttake a b).den env).T = (a.den env).T.take (b.den env).I.toNat := id rfl
theorem dT_drop {env : Env} {a b : E} : ((E.o2 .tdrop a b).den env).T = (a.den env).T.drop (b.den env).I.toNat := id rfl
theorem dT_cat {env : Env} {a b : E} : ((E.o2 .tcat a b).den env).T = (a.den env).T ++ (b.den env).T := id rfl
theorem T_cel {a b : Dv} : (O2.den .cel a b).T = [a :: b.T.head?.getD []] := id rfl
theorem T_i {z : Int} : (Dv.i z).T = [] := id rfl
theorem T_t {l : List (List Dv)} : (Dv.t l).T = l := id rfl
theorem ob_t {env : Env} {a b : E} : (Ob.t a b).den env ↔ (a.den env).T = (b.den env).T := Iff.rfl
theorem stop_yes {B : Nat -> Bool} {n i : Nat} (hi : i <= stop B n) (hn : i < n) (hb : B i = true) : stop B n < n := by
  have := @stop_le B n; rcases Nat.lt_or_ge (stop B n) n with h | h
  . exact h
  . have : B i = false := stop_before (n := n) (by omega)
    rw [hb] at this; cases this
theorem stop_no {B : Nat -> Bool} {n i : Nat} (hi : i <= stop B n) (hn : i < n) (hb : B i = false) : i < stop B n := by
  rcases Nat.lt_or_ge i (stop B n) with h | h
  . exact h
  . have e : i = stop B n := by omega
    have : B (stop B n) = true := stop_at (by omega)
    rw [<- e, hb] at this; cases this
theorem one_ok {P : Program} (hP : Plain P) (hM : P.follows .mixedOrders = true) {D : LoopY} (hbody : ((P.funcs[D.f]?).bind (·.body)).isSome = true) {env : Env} {L : List (Facts × List Ob)} (len : Env -> Nat) (ho : D.obl P 0 = some L)
    (hk : ∀ m, D.ok0 m = true -> m = 0) (ht : ∀ m, D.tgt m = true -> m = 0) (hxobj : ∀ ν, ((D.hx ν).h.all fun x => headObj x.2) = true)
    (hX : ∀ e' i u A, LoopY.Like D env e' -> (D.ent 0).Hold e' -> i <= len e' -> ExtOk P (D.env e' u i) A (D.X.toExt P))
    (hL : ∀ e', LoopY.Like D env e' -> (D.ent 0).Hold e' -> ∀ i u, i <= len e' -> AllL (D.env e' u i) L)
    (hfs : ∀ e', LoopY.Like D env e' -> (D.ent 0).Hold e' -> ∀ i u, i <= len e' -> (D.hd 0).fs.Hold (D.env e' u i))
    (hlt : ∀ e', LoopY.Like D env e' -> (D.ent 0).Hold e' -> ∀ i u, i <= len e' -> (D.lt.den (D.env e' u i)).B = true -> i < len e') : LpOk P env D.f D.key D.lpP := by
  refine LoopY.lp_okP hP hM hbody (fun e' he μ0 h0 hent => ?_) hxobj; obtain rfl := hk μ0 h0
  exact ⟨⟨len e', fun _ i μ => μ = 0, fun _ => L, fun i u A hi => hX e' i u A he hent hi, fun u i μ hm => by rw [hm]; exact ho, fun i μ u hm hi x hx hfx => allL_mem (hL e' he hent i u hi) x hx hfx,
    fun i μ u hm hi => by rw [hm]; exact hfs e' he hent i u hi, fun i u hi hl => hlt e' he hent i u hi hl, fun u i μ μ' hm h _ _ => ⟨0, rfl, by rw [ht μ' h]; exact SameH.refl _⟩, fun u _ => ⟨0, rfl, SameH.refl _⟩⟩⟩
theorem two_ok {P : Program} (hP : Plain P) (hM : P.follows .mixedOrders = true) {D : LoopY} (hbody : ((P.funcs[D.f]?).bind (·.body)).isSome = true) {env : Env} {L0 L1 : List (Facts × List Ob)} (len : Env -> Nat) (ho0 : D.obl P 0 = some L0) (ho1 : D.obl P 1 = some L1)
    (hk : ∀ m, D.ok0 m = true -> m = 0) (ht : ∀ m, D.tgt m = true -> m = 1) (hxobj : ∀ ν, ((D.hx ν).h.all fun x => headObj x.2) = true)
    (hX : ∀ e' i u A, LoopY.Like D env e' -> (D.ent 0).Hold e' -> i <= len e' -> ExtOk P (D.env e' u i) A (D.X.toExt P))
    (hL0 : ∀ e', LoopY.Like D env e' -> (D.ent 0).Hold e' -> ∀ u, AllL (D.env e' u 0) L0)
    (hL1 : ∀ e', LoopY.Like D env e' -> (D.ent 0).Hold e' -> ∀ i u, 0 < i -> i <= len e' -> AllL (D.env e' u i) L1)
    (hfs0 : ∀ e', LoopY.Like D env e' -> (D.ent 0).Hold e' -> ∀ u, (D.hd 0).fs.Hold (D.env e' u 0))
    (hfs1 : ∀ e', LoopY.Like D env e' -> (D.ent 0).Hold e' -> ∀ i u, 0 < i -> i <= len e' -> (D.hd 1).fs.Hold (D.env e' u i))
    (hlt : ∀ e', LoopY.Like D env e' -> (D.ent 0).Hold e' -> ∀ i u, i <= len e' -> (D.lt.den (D.env e' u i)).B = true -> i < len e') : LpOk P env D.f D.key D.lpP := by
  refine LoopY.lp_okP hP hM hbody (fun e' he μ0 h0 hent => ?_) hxobj; obtain rfl := hk μ0 h0
  refine ⟨⟨len e', fun _ i μ => (μ = 0 /\ i = 0) \/ (μ = 1 /\ 0 < i), fun μ => cond (Nat.beq μ 0) L0 L1, fun i u A hi => hX e' i u A he hent hi, fun u i μ hm => ?_, fun i μ u hm hi x hx hfx => ?_,
    fun i μ u hm hi => ?_, fun i u hi hl => hlt e' he hent i u hi hl, fun u i μ μ' hm h _ _ => ⟨1, .inr ⟨rfl, Nat.succ_pos i⟩, by rw [ht μ' h]; exact SameH.refl _⟩, fun u _ => ⟨0, .inl ⟨rfl, rfl⟩, SameH.refl _⟩⟩⟩
  . rcases hm with ⟨rfl, _⟩ | ⟨rfl, _⟩
    . exact ho0
    . exact ho1
  . rcases hm with ⟨rfl, rfl⟩ | ⟨rfl, hi0⟩
    . exact allL_mem (hL0 e' he hent u) x hx hfx
    . exact allL_mem (hL1 e' he hent i u hi0 hi) x hx hfx
  . rcases hm with ⟨rfl, rfl⟩ | ⟨rfl, hi0⟩
    . exact hfs0 e' he hent u
    . exact hfs1 e' he hent i u hi0 hi
def leafL (q : Leaf) : Facts × List Ob := (q.fs, (match q.r with | .bool e => .e e | _ => .e (.bl false)) :: q.vcs)
def lawObl (P : Program) (X : XCtr) (f : FuncId) (KS : List PK) (n : Nat) : Option (List (Facts × List Ob)) :=
  match explore P X 400 (.fn false f (symArgs KS 0)) (symHeap KS 0) KS.length n (symFacts KS 0) with
  | .ok l => some (l.map leafL)
  | .error _ => none
theorem law_good {l : List Leaf} {env : Env} (h : AllL env (l.map leafL)) : ∀ q ∈ l, q.fs.Hold env -> (∀ e ∈ q.vcs, e.den env) /\ ∃ e, q.r = .bool e /\ (e.den env).B = true := by
  intro q hq hf; have := allL_mem h (leafL q) (List.mem_map.2 ⟨q, hq, rfl⟩) hf; have h0 := this _ (List.mem_cons_self ..); refine ⟨fun e he => this e (List.mem_cons_of_mem _ he), ?_⟩; cases hr : q.r with
  | bool e => rw [hr] at h0; exact ⟨e, rfl, h0⟩
  | _ => rw [hr] at h0; cases h0
def pureEnv (U : Nat -> Dv -> Dv) : Env := ⟨fun _ => .i 0, fun _ _ => .i 0, fun _ _ => .nilIface, fun _ _ _ => none, U⟩
theorem law_walk {P : Program} (hP : Plain P) (hM : P.follows .mixedOrders = true) {f : FuncId} {KS : List PK} (hsm : KS.all PK.small = true) {X : XCtr} {n : Nat} {L : List (Facts × List Ob)} (hob : lawObl P X f KS n = some L) {U : Nat -> Dv -> Dv}
    (hX : ∀ (o : Env) (A : Anchor), o.uf = U -> ExtOk P o A (X.toExt P)) (hL : ∀ o : Env, o.uf = U -> AllL o L) (W : World) (VS : List Value) (hl : VS.length = KS.length)
    (hall : ∀ (i : Nat) (p : PK) (v : Value), KS[i]? = some p -> VS[i]? = some v -> p.holds W v) : Calls P f VS.toArray W fun e W' => e = .returned (.bool true) /\ Below W.heap.size W W' := by
  unfold lawObl at hob; cases he : explore P X 400 (.fn false f (symArgs KS 0)) (symHeap KS 0) KS.length n (symFacts KS 0) with
  | error e => rw [he] at hob; cases hob
  | ok l =>
    rw [he] at hob; simp only [Option.some.injEq] at hob; have he' : explore P X 400 (.fn false f (symArgs KS 0)) (symHeap KS 0) KS.length n ([] ++ symFacts KS 0) = .ok l := he; refine law_main hP hM hsm (x := pureEnv U) he' hl hall hold_nil (hX _ _ rfl) (law_good ?_); rw [hob]; exact hL _ rfl
theorem HSat.stay {env : Env} {w0 : Anchor} {ρ : PMap} {h : Heap} {w w' : World} (H : HSat env w0 ρ h w) (K : Kept (anchor w) w') : HSat env w0 ρ h w' := by
  have blk : ∀ c, c < w.heap.size -> w'.heap[c]? = w.heap[c]? := fun c hc => K.block c hc; have lt : ∀ {c x}, w.heap[c]? = some x -> c < w.heap.size := fun hx => (Array.getElem?_eq_some_iff.1 hx).1; refine ⟨⟨K.os.trans H.below.os, K.tape.trans H.below.tape, K.output.trans H.below.output, Nat.le_trans H.below.size K.size, fun k hk => ?_⟩, fun n o hn => ?_, H.inj, ?_, ?_⟩
  . rw [blk k (Nat.lt_of_lt_of_le (w0.lt k hk) H.below.size)]; exact H.below.block k hk
  . refine (H.objs n o hn).keep (PMap.le_refl ρ) (fun p ho hp => ?_) (fun h0 _ => h0); obtain ⟨q, b, hq, _, hb⟩ := (H.objs n o hn).place ho; rw [hp] at hq; injection hq with hq; subst hq; exact blk _ (lt hb)
  . exact H.ar.keep (Fz.le_refl _) rfl (fun _ _ _ _ h => h) (fun T ks e h => ⟨ks, e, h⟩) (fun n T ks e i c hm hc => blk c (H.ar.own n T ks e i c hm hc).1) K.size (fun _ h => h) rfl (fun m o q hm ho hq => .inl ⟨m, o, q, hm, ho, hq, rfl⟩) (fun _ _ _ _ _ _ _ _ h => h)
  . exact H.fz.keep rfl (fun b x hb hx => (blk b (lt hx)).trans hx) (fun m o q hm ho hq => .inl ⟨m, o, q, hm, ho, hq, rfl⟩)
def shutP (b : Bool) (args : List SV) (nx : Nat) : Option (Prog (SV × Nat)) := cond args.isEmpty (some (.ret (.bool (.bl b), nx))) none
def saysB (b : Bool) (q : Leaf) : Bool :=
  q.vcs.isEmpty && (match q.r with
    | .bool (.bl c) => (cond c b (cond b false true))
    | _ => false)
def shutB (P : Program) (f : FuncId) (fuel n : Nat) (b : Bool) : Bool :=
  match explore P XCtr.none fuel (.fn false f []) [] 0 n [] with
  | .ok l => l.all (saysB b)
  | .error _ => false
theorem shut_ok {P : Program} (hP : Plain P) (hM : P.follows .mixedOrders = true) {env : Env} {f : FuncId} {fuel n : Nat} {b : Bool} (h : shutB P f fuel n b = true) : FnOk P env f (shutP b) := by
  intro w0 args nx p hh r h' nx' hp hr; unfold shutP at hp; cases args with
  | cons a as => cases hp
  | nil =>
    simp only [List.isEmpty_nil, cond_true, Option.some.injEq] at hp; subst hp; rw [run_ret] at hr; obtain ⟨hr, rfl⟩ := hr; simp only [Prod.mk.injEq] at hr; obtain ⟨rfl, rfl⟩ := hr; refine ⟨Nat.le_refl _, fun ρ w vs hs hn ha => ?_⟩; simp only [SV.Rels] at ha; subst ha; unfold shutB at h; cases he : explore P XCtr.none fuel (.fn false f []) [] 0 n [] with
    | error m => rw [he] at h; cases h
    | ok l =>
      rw [he] at h; have hall := List.all_eq_true.1 h
      have h0 : HSat env (anchor w) ⟨fun _ => none, ⟨fun _ => none, fun _ _ => none⟩⟩ (cden []) w :=
        ⟨Kept.refl _, (fun n o hn => by cases hn), (fun m n o o' p q hm => by cases hm), (ArAll.none (fun n o hn => by cases hn) rfl), ⟨(fun b x hb => by cases hb), (fun b x n o p hb => by cases hb), (fun b x hb => by cases hb)⟩⟩
      have hc := calls_of_explore hP hM extOk_none he (env := env) (fun e b hm => by cases hm) (fun q hq _ e hx => by
        have := hall q hq; unfold saysB at this; rw [Bool.and_eq_true] at this; rw [List.isEmpty_iff.1 this.1] at hx
        cases hx) h0 (fun n p hp => by cases hp) (show SV.Rels env _ [] [] from rfl)
      refine hc.mono fun e w' hq => ?_; obtain ⟨q, hq, _, hpost⟩ := hq; obtain ⟨ρ', v, rfl, _, HS, _, hv⟩ := hpost; refine ⟨ρ, v, rfl, PMap.le_refl ρ, hs.stay HS.below, hn, ?_⟩; have := hall q hq; unfold saysB at this; rw [Bool.and_eq_true] at this; cases hqr : q.r with
      | bool x =>
        rw [hqr] at this hv; cases x with
        | bl c =>
          simp only [SV.Rel, E.den, Dv.B] at hv ⊢; rw [hv]; cases c <;> cases b <;> first | rfl | (cases this.2)
        | _ => cases this.2
      | _ => rw [hqr] at this; cases this.2
mutual
def DK.noAp : DK -> Bool
  | .sl ks => ks.noAp
  | .fp ks => ks.noAp
  | .ifc _ k => k.noAp
  | .ap _ => false
  | _ => true
def DKs.noAp : DKs -> Bool
  | .nil => true
  | .cons k r => k.noAp && r.noAp
end
theorem fzcell_ob {fz fz' : Fz} (h : fz'.ob = fz.ob) {b j : Nat} : fzcell fz' b j = fzcell fz b j := by unfold fzcell; rw [h]
mutual
theorem DK.Rel.reAr {fz fz' : Fz} (h : fz'.ob = fz.ob) : ∀ {k : DK} {d : Dv} {v : Value}, k.noAp = true -> k.Rel fz d v -> k.Rel fz' d v
  | .int _, _, _, _, r => r
  | .bool, _, _, _, r => r
  | .str, _, _, _, r => r
  | .nilm, _, _, _, r => r
  | .ap _, _, _, hk, _ => by cases hk
  | .sl ks, d, v, hk, r => by
    simp only [DK.Rel] at r ⊢; obtain ⟨A, cap, h1, h2, h3⟩ := r; refine ⟨A, cap, h1, h2, fun hl => ?_⟩; obtain ⟨b, o, h4, h5⟩ := h3 hl; exact ⟨b, o, h4, fun i hi => DKs.Rel.reAr h hk (fun j v hv => by rw [fzcell_ob h]; exact hv) (h5 i hi)⟩
  | .fp ks, d, v, hk, r => by
    simp only [DK.Rel] at r ⊢; obtain ⟨b, o, h1, h2⟩ := r; exact ⟨b, o, h1, DKs.Rel.reAr h hk (fun j v hv => by rw [fzcell_ob h]; exact hv) h2⟩
  | .ifc t k, d, v, hk, r => by
    simp only [DK.Rel] at r ⊢; obtain ⟨y, h1, h2⟩ := r; exact ⟨y, h1, DK.Rel.reAr h hk h2⟩
theorem DKs.Rel.reAr {fz fz' : Fz} (h : fz'.ob = fz.ob) : ∀ {ks : DKs} {row : Nat -> Dv} {cell cell' : Nat -> Option Value} {j : Nat}, ks.noAp = true -> (∀ j v, cell j = some v -> cell' j = some v) -> ks.Rel fz row cell j -> ks.Rel fz' row cell' j
  | .nil, _, _, _, _, _, _, _ => trivial
  | .cons k ks, _, _, _, _, hk, hc, r => by
    simp only [DKs.noAp, Bool.and_eq_true] at hk; simp only [DKs.Rel] at r ⊢; obtain ⟨⟨v, h1, h2⟩, h3⟩ := r; exact ⟨⟨v, hc _ _ h1, DK.Rel.reAr h hk.1 h2⟩, DKs.Rel.reAr h hk.2 hc h3⟩
end
mutual
def SV.noAp : SV -> Bool
  | .dsl ks _ => ks.noAp
  | .dslx ks _ => ks.noAp
  | .dptr ks _ _ _ => ks.noAp
  | .apt .. => false
  | .fn _ a c => SV.noAps a && SV.noAps c
  | .ifc _ x => x.noAp
  | .agg l => SV.noAps l
  | .tup l => SV.noAps l
  | _ => true
def SV.noAps : List SV -> Bool
  | [] => true
  | x :: l => x.noAp && SV.noAps l
end
mutual
theorem SV.Rel.reAr {env : Env} {ρ ρ' : PMap} (hp : ρ'.pl = ρ.pl) (h : ρ'.fz.ob = ρ.fz.ob) : ∀ {x : SV} {v : Value}, x.noAp = true -> x.Rel env ρ v -> x.Rel env ρ' v := by
  intro x v hx r; have e : ∀ n, ρ' n = ρ n := fun n => congrFun hp n; cases x with
  | ptr n o => simp only [SV.Rel, e] at r ⊢; exact r
  | sl n s lo l => simp only [SV.Rel, e] at r ⊢; exact r
  | map n => simp only [SV.Rel, e] at r ⊢; exact r
  | chan n => simp only [SV.Rel, e] at r ⊢; exact r
  | dsl ks a => simp only [SV.Rel] at r ⊢; exact DK.Rel.reAr (k := .sl ks) h hx r
  | dslx ks a => simp only [SV.Rel] at r ⊢; exact ⟨DK.Rel.reAr (k := .sl ks) h hx r.1, r.2⟩
  | dptr ks a i j =>
    simp only [SV.Rel] at r ⊢; obtain ⟨b, o, h1, h2⟩ := r; exact ⟨b, o, h1, DKs.Rel.reAr h hx (fun j v hv => by rw [fzcell_ob h]; exact hv) h2⟩
  | apt T i j => cases hx
  | fn f a c =>
    simp only [SV.noAp, Bool.and_eq_true] at hx; simp only [SV.Rel] at r ⊢; obtain ⟨p, q, h1, h2, h3⟩ := r; exact ⟨p, q, h1, SV.Rels.reAr hp h hx.1 h2, SV.Rels.reAr hp h hx.2 h3⟩
  | ifc t x =>
    simp only [SV.Rel] at r ⊢; obtain ⟨y, h1, h2⟩ := r; exact ⟨y, h1, SV.Rel.reAr hp h hx h2⟩
  | agg l =>
    simp only [SV.Rel] at r ⊢; obtain ⟨y, h1, h2⟩ := r; exact ⟨y, h1, SV.Rels.reAr hp h hx h2⟩
  | tup l =>
    simp only [SV.Rel] at r ⊢; obtain ⟨y, h1, h2⟩ := r; exact ⟨y, h1, SV.Rels.reAr hp h hx h2⟩
  | _ => exact r
theorem SV.Rels.reAr {env : Env} {ρ ρ' : PMap} (hp : ρ'.pl = ρ.pl) (h : ρ'.fz.ob = ρ.fz.ob) : ∀ {l : List SV} {vs : List Value}, SV.noAps l = true -> SV.Rels env ρ l vs -> SV.Rels env ρ' l vs := by
  intro l vs hx r; cases l with
  | nil => exact r
  | cons x l =>
    simp only [SV.noAps, Bool.and_eq_true] at hx; simp only [SV.Rels] at r ⊢; obtain ⟨v, q, h1, h2, h3⟩ := r; exact ⟨v, q, h1, SV.Rel.reAr hp h hx.1 h2, SV.Rels.reAr hp h hx.2 h3⟩
end
mutual
theorem SV.noAp_ren {τ : Nat -> Nat} {pr : Nat -> E} : ∀ {x : SV}, x.noAp = true -> (x.ren τ pr).noAp = true := by
  intro x h; cases x with
  | fn f a c =>
    simp only [SV.noAp, Bool.and_eq_true] at h; simp only [SV.ren, SV.noAp, Bool.and_eq_true]; exact ⟨SV.noAps_ren h.1, SV.noAps_ren h.2⟩
  | ifc t x => exact SV.noAp_ren (x := x) h
  | agg l => exact SV.noAps_ren (l := l) h
  | tup l => exact SV.noAps_ren (l := l) h
  | _ => exact h
theorem SV.noAps_ren {τ : Nat -> Nat} {pr : Nat -> E} : ∀ {l : List SV}, SV.noAps l = true -> SV.noAps (SV.rens τ pr l) = true := by
  intro l h; cases l with
  | nil => rfl
  | cons x l =>
    simp only [SV.noAps, Bool.and_eq_true] at h; simp only [SV.rens, SV.noAps, Bool.and_eq_true]; exact ⟨SV.noAp_ren h.1, SV.noAps_ren h.2⟩
end
def arHeap (l : List (TypeId × DKs)) : CHeap := l.map fun x => (arN x.1, .ar x.1 x.2 (.il 0))
theorem arHeap_get {l : List (TypeId × DKs)} {n : Nat} {o : SObj} (h : cget (arHeap l) n = some o) : ∃ T ks, n = arN T /\ o = .ar T ks (.il 0) := by
  obtain ⟨x, _, he⟩ := List.mem_map.1 (LoopY.cget_mem h); injection he with h1 h2; exact ⟨x.1, x.2, h1.symm, h2.symm⟩
theorem arHeap_sat {env : Env} {A : Anchor} {fz : Nat -> Option Obj} {l : List (TypeId × DKs)} {w : World} (hb : Kept A w) (ha : A.ar = fun _ _ => none) (hf : ∀ b x, fz b = some x -> w.heap[b]? = some x) (ho : ∀ b x, fz b = some x -> A.K b -> A.F b) : HSat env A ⟨fun _ => none, ⟨fz, fun _ _ => none⟩⟩ (cden (arHeap l)) w := by
  refine ⟨hb, fun n o hn => ?_, fun m n o o' p q hm hn ho => ?_, ⟨fun n T ks e hn => ?_, (fun n T ks e i b hn h => by cases h), (fun n T ks e i b m o q hn h => by cases h), (fun n T ks e i n' T' ks' e' i' b hn hn' h => by cases h), (fun n T ks e i b hn h => by cases h), (fun T _ => by rw [ha])⟩, ⟨hf, (fun b x n o p hb hn ho hp => by cases hp), ho⟩⟩
  . obtain ⟨T, ks, rfl, rfl⟩ := arHeap_get hn; rfl
  . obtain ⟨T, ks, rfl, rfl⟩ := arHeap_get hm; cases ho
  . obtain ⟨T', ks', rfl, h2⟩ := arHeap_get hn; injection h2 with h2 h3 h4; subst h4; exact ⟨(fun i b h => by cases h), fun i hi => absurd hi (Nat.not_lt_zero i)⟩
def anchorF (w : World) (ρ : PMap) : Anchor := ⟨w, fun k => k < w.heap.size, fun b => (ρ.fz b).isSome = true, fun _ _ => none, fun _ h => h⟩
theorem HSat.stayF {env e' : Env} {w0 : Anchor} {ρ ρ' : PMap} {h h' : Heap} {w w' : World} (H : HSat env w0 ρ h w) (H' : HSat e' (anchorF w ρ) ρ' h' w') (hle : ∀ b x, ρ.fz b = some x -> ρ'.fz b = some x) : HSat env w0 ⟨ρ.pl, ⟨ρ'.fz.ob, ρ.fz.ar⟩⟩ h w' := by
  have K : Kept (anchor w) w' := ⟨H'.below.os, H'.below.tape, H'.below.output, H'.below.size, H'.below.block⟩; have S := H.stay K; have le : PMap.le ρ ⟨ρ.pl, ⟨ρ'.fz.ob, ρ.fz.ar⟩⟩ := ⟨fun _ _ h => h, ⟨hle, fun _ _ _ h => h⟩⟩; have lt : ∀ {c x}, w.heap[c]? = some x -> c < w.heap.size := fun hx => (Array.getElem?_eq_some_iff.1 hx).1; have new : ∀ b x, ρ'.fz b = some x -> b < w.heap.size -> ∃ y, ρ.fz b = some y := fun b x hb hl => Option.isSome_iff_exists.1 (H'.fz.old b x hb hl); refine ⟨S.below, fun n o hn => (S.objs n o hn).keep le (fun _ _ _ => rfl) (fun h0 _ => h0), S.inj, ?_, ⟨H'.fz.at_, fun b x n o p hb hn ho hp he => ?_, fun b x hb hk => ?_⟩⟩
  . refine H.ar.keep le.fz rfl (fun _ _ _ _ h => h) (fun T ks e h => ⟨ks, e, h⟩) (fun n T ks e i c hm hc => K.block c (H.ar.own n T ks e i c hm hc).1) K.size (fun _ h => h) rfl (fun m o q hm ho hq => .inl ⟨m, o, q, hm, ho, hq, rfl⟩) (fun n T ks e i c hm hc h0 => ?_); show ρ'.fz c = none; cases hz : ρ'.fz c with
    | none => rfl
    | some x =>
      obtain ⟨y, hy⟩ := new c x hz (H.ar.own n T ks e i c hm hc).1; rw [h0] at hy; cases hy
  . obtain ⟨q, bb, hq, _, hbb⟩ := (H.objs n o hn).place ho; have hp : ρ n = some p := hp; rw [hp] at hq; injection hq with hq; subst hq; obtain ⟨y, hy⟩ := new b x hb (by rw [<- he]; exact lt hbb)
    exact H.fz.free b y n o p hy hn ho hp he
  . obtain ⟨y, hy⟩ := new b x hb (Nat.lt_of_lt_of_le (w0.lt b hk) H.below.size); exact H.fz.old b y hy hk
structure FunY where
  f : FuncId
  args : List SV
  params : List Nat
  ent : Facts
  app : List SV -> Bool
  kds : List (TypeId × DKs) := []
  exits : List (E × Nat)
  kind : SV -> Option Nat
  out : Nat -> SV
  X : XCtr
  fuel : Nat
  np : Nat
  ars : List (TypeId × DKs) := []
def frzAP (kd : TypeId -> Option DKs) : List Nat -> List SV -> Prog (List SV)
  | [], sl => .ret sl
  | n :: r, sl => do
    let o <- getN n
    let x <- ofOpt (frzG kd o) "call: a row that is no data"
    vcsP x.2.2.2.2
    putN n (leftG x.2.1 x.2.2.2.1 x.1 x.2.2.1)
    frzAP kd r (SV.frzs ⟨n, x.2.1, x.2.2.2.1, x.1, x.2.2.1⟩ sl)
theorem frzAP_ok {env : Env} {kd : TypeId -> Option DKs} {A : Anchor} {w : World} {vs : List Value} : ∀ {l : List Nat} {sl sl' : List SV} {h h' : Heap} {ρ : PMap}, (frzAP kd l sl).Run env h sl' h' -> HSat env A ρ h w -> SV.Rels env ρ sl vs -> ∃ ρ', ρ.le ρ' /\ ρ'.pl = ρ.pl /\ HSat env A ρ' h' w /\ SV.Rels env ρ' sl' vs
  | [], sl, sl', h, h', ρ, hr, hs, ha => by
    simp only [frzAP, run_ret] at hr; obtain ⟨rfl, rfl⟩ := hr; exact ⟨ρ, PMap.le_refl ρ, rfl, hs, ha⟩
  | n :: r, sl, sl', h, h', ρ, hr, hs, ha => by
    simp only [frzAP, run_bind, run_getN, run_ofOpt, run_vcsP, run_putN] at hr; obtain ⟨o, _, ⟨ho, rfl⟩, x, _, ⟨hx, rfl⟩, _, _, ⟨ht, rfl⟩, _, _, rfl, hr⟩ := hr; obtain ⟨ks, sz, e, len, obs⟩ := x; obtain ⟨ρ1, hle, hpl, HS, hv, hleft⟩ := hs.frzG ho hx ht; obtain ⟨ρ2, h2, hp2, hs2, ha2⟩ := frzAP_ok hr (HSat.putLeft HS hleft) (SV.frzs_ok (F := ⟨n, sz, len, ks, e⟩) hle hv ha); exact ⟨ρ2, PMap.le_trans hle h2, hp2.trans hpl, hs2, ha2⟩
namespace FunY
open LoopY (prE withP nextP primeF prE_no primeF_ok)
structure Like (D : FunY) (env e' : Env) : Prop where
  v : ∀ n, n ∉ D.params -> e'.v n = env.v n
  fn : e'.fn = env.fn
  val : e'.val = env.val
  mp : e'.mp = env.mp
  uf : e'.uf = env.uf
def funP (D : FunY) (args : List SV) (nx : Nat) : Option (Prog (SV × Nat)) :=
  cond (D.app args) (some (do
    let as <- frzAP (kdOf D.kds) (dedupN (wantL args D.args)) args
    let θ := unis D.params as D.args []
    must ((θ.map (·.1)).all (fun p => inL p D.params) && SV.noAps D.args) "call: the function's own variables"
    let es <- ofOpt (entCs (prE θ) (fun _ => true) (fun _ => nx) as D.args) "call: arguments"
    vcsP (LoopY.factsO (primeF (prE θ) D.ent))
    vcsP es
    let ν <- decP (D.exits.map fun x => (x.1.prime (prE θ), x.2))
    must ((D.out ν).renOk (fun _ => 0) (fun _ => 0) (fun _ => true) && (D.out ν).noAp) "call: result"
    return ((D.out ν).ren (fun _ => 0) (prE θ), nx))) none
def leafObl (D : FunY) (nh : Nat) (q : Leaf) : Option (Facts × List Ob) :=
  cond (deadV q.vcs) (some (q.fs.take (q.fs.length - nh), [.e (.bl false)])) <|
  match D.kind q.r with
  | some ν =>
    match frzMany (fun n q => q.frzN (kdOf D.kds) 6 n) (dedupN (wantV q.r (D.out ν))) { q with fr := ⟨[q.r], []⟩ } with
    | some (q', ob) =>
      match q'.fr.sl with
      | [r'] =>
        match LoopY.exitObl D.exits ν, entC E.v (fun _ => true) (fun _ => q'.nx) r' (D.out ν) with
        | some xs, some es => some (q.fs.take (q.fs.length - nh), LoopY.pruneO q.fs (xs ++ (q.vcs ++ (ob ++ es))))
        | _, _ => none
      | _ => none
    | none => none
  | none => none
def allObl (D : FunY) (nh : Nat) : List Leaf -> Option (List (Facts × List Ob))
  | [] => some []
  | q :: r =>
    match D.leafObl nh q, D.allObl nh r with
    | some x, some l => some (x :: l)
    | _, _ => none
def obl (P : Program) (D : FunY) : Option (List (Facts × List Ob)) :=
  match explore P D.X D.fuel (.fn false D.f D.args) (arHeap D.ars) 0 D.np D.ent with
  | .ok l => D.allObl D.ent.length l
  | .error _ => none
theorem allObl_mem {D : FunY} {nh : Nat} : ∀ {l : List Leaf} {L : List (Facts × List Ob)}, D.allObl nh l = some L -> ∀ q ∈ l, ∃ x ∈ L, D.leafObl nh q = some x
  | [], _, _, q, hq => by cases hq
  | a :: r, L, h, q, hq => by
    simp only [allObl] at h; split at h
    . rename_i x l hx hl; injection h with h; subst h; rcases List.mem_cons.1 hq with rfl | hq
      . exact ⟨x, List.mem_cons_self .., hx⟩
      . obtain ⟨y, hy, h2⟩ := allObl_mem hl q hq; exact ⟨y, List.mem_cons_of_mem _ hy, h2⟩
    . cases h
def SemF (P : Program) (D : FunY) (e' : Env) : Prop :=
  ∀ (w : World) (ρ1 : PMap) (vs : List Value), HSat e' (anchorF w ρ1) ⟨fun _ => none, ⟨ρ1.fz.ob, fun _ _ => none⟩⟩ (cden (arHeap D.ars)) w -> SV.Rels e' ⟨fun _ => none, ⟨ρ1.fz.ob, fun _ _ => none⟩⟩ D.args vs ->
    Calls P D.f vs.toArray w fun e w' => ∃ m xs ρ' v nx' e2 hh, e = .returned v /\ LoopY.exitObl D.exits m = some xs /\ AllT e' xs /\ PMap.le ⟨fun _ => none, ⟨ρ1.fz.ob, fun _ _ => none⟩⟩ ρ' /\ HSat e2 (anchorF w ρ1) ρ' hh w' /\
      (∀ n p, ρ' n = some p -> n < nx') /\ (D.out m).Rel e' (ρ'.re fun _ => nx') v
theorem fun_core {P : Program} (hP : Plain P) (hM : P.follows .mixedOrders = true) {D : FunY} {L : List (Facts × List Ob)} (hob : D.obl P = some L) {e' : Env}
    (hX : ∀ A, ExtOk P e' A (D.X.toExt P)) (hent : D.ent.Hold e') (hall : AllL e' L) : SemF P D e' := by
  intro w ρ1 vs h0 hargs; unfold obl at hob; cases he : explore P D.X D.fuel (.fn false D.f D.args) (arHeap D.ars) 0 D.np D.ent with
  | error m => rw [he] at hob; cases hob
  | ok l =>
    rw [he] at hob; have take : ∀ (q : Leaf), q.fs.Hold e' -> Facts.Hold e' (q.fs.take (q.fs.length - D.ent.length)) := fun q hq e t hm => hq e t (List.mem_of_mem_take hm)
    have leaf : ∀ q ∈ l, q.fs.Hold e' -> ∃ m q' ob r' xs es, frzMany (fun n q => q.frzN (kdOf D.kds) 6 n) (dedupN (wantV q.r (D.out m))) { q with fr := ⟨[q.r], []⟩ } = some (q', ob) /\ q'.fr.sl = [r'] /\ LoopY.exitObl D.exits m = some xs /\
        entC E.v (fun _ => true) (fun _ => q'.nx) r' (D.out m) = some es /\ AllT e' (xs ++ (q.vcs ++ (ob ++ es))) := fun q hq hf => by
      obtain ⟨x, hx, h1⟩ := allObl_mem hob q hq; have hax := allL_mem hall x hx; unfold leafObl at h1; cases hdd : deadV q.vcs with
      | true =>
        rw [hdd, cond_true] at h1; injection h1 with h1; subst h1; exact (deadV_false (vcs := [.e (.bl false)]) rfl (hax (take q hf))).elim
      | false =>
      rw [hdd, cond_false] at h1; split at h1
      . rename_i m hm; split at h1
        . rename_i q' ob hfr; split at h1
          . rename_i r' hsl; split at h1
            . rename_i xs es hxs hes; injection h1 with h1; subst h1; exact ⟨m, q', ob, r', xs, es, hfr, hsl, hxs, hes, LoopY.pruneO_ok hf (hax (take q hf))⟩
            . cases h1
          . cases h1
        . cases h1
      . cases h1
    have hc := calls_of_explore hP hM (hX _) he hent (fun q hq hf e he => by
      obtain ⟨m, q', ob, r', xs, es, _, _, _, _, ht⟩ := leaf q hq hf
      exact ht e (List.mem_append_right _ (List.mem_append_left _ he))) h0 (fun n p hp => by cases hp) hargs
    refine hc.mono fun e w' hq => ?_; obtain ⟨q, hq, hqf, ρ', v, rfl, hle', HS, hnx, hv⟩ := hq; obtain ⟨m, q', ob, r', xs, es', hfr, hsl, hxs, hes', ht⟩ := leaf q hq hqf; obtain ⟨t1, t2⟩ := allT_append.1 ht; obtain ⟨_, t3⟩ := allT_append.1 t2; obtain ⟨t4, t5⟩ := allT_append.1 t3; have hself : Nexts e' e' E.v (fun _ => true) := ⟨fun _ => rfl, rfl, fun _ _ _ => rfl, rfl, rfl⟩; have hth := frzMany_ok (env := e') (fun n q q' obs => Leaf.frzN_ok) hfr t4; obtain ⟨ρ2, hle2, hs2⟩ := hth.sat (anchorF w ρ1) ρ' { tmps := #[v], defers := [] } w' ⟨HS, ⟨v, [], rfl, hv, rfl⟩, DRel.nil, hnx⟩; have hv2 := hs2.sl; rw [hsl] at hv2; obtain ⟨v2, l2, e2, hv2, _⟩ := hv2; injection e2 with e2 _; subst e2; have g1 := SV.ent_ok _ _ _ (entC_ok (σ := fun _ => q'.nx) hself hes' t5) hv2; exact ⟨m, xs, ρ2, _, q'.nx, _, _, rfl, hxs, t1, PMap.le_trans hle' hle2, hs2.hs, hs2.nx, g1⟩
theorem fun_wrap {P : Program} {D : FunY} {env : Env} (hS : ∀ e', Like D env e' -> D.ent.Hold e' -> SemF P D e') : FnOk P env D.f D.funP := by
  intro w0 args nx p h r h' nx' hp hr; unfold funP at hp; cases happ : D.app args with
  | false => rw [happ] at hp; cases hp
  | true =>
    rw [happ] at hp; simp only [cond_true, Option.some.injEq] at hp; subst hp; simp only [run_bind, run_must, run_ofOpt, run_vcsP] at hr; obtain ⟨as, h1, hfr, _, _, ⟨hθ, rfl⟩, es, _, ⟨hes, rfl⟩, _, _, ⟨htf, rfl⟩, _, _, ⟨htes, rfl⟩, ν, h2, hdec, _, _, ⟨hren, rfl⟩, hret⟩ := hr; obtain rfl := decP_heap hdec; rw [run_pure] at hret; obtain ⟨hret, rfl⟩ := hret; simp only [Prod.mk.injEq] at hret; obtain ⟨rfl, rfl⟩ := hret; rw [Bool.and_eq_true] at hθ hren; obtain ⟨hθ, hnoA⟩ := hθ; obtain ⟨hren, hnoO⟩ := hren; refine ⟨Nat.le_refl _, fun ρ w vs hs hn ha => ?_⟩; generalize hθd : unis D.params as D.args [] = θ at *; have hpθ : ∀ p ∈ θ.map (·.1), p ∈ D.params := fun p hp => inL_iff.1 (List.all_eq_true.1 hθ p hp); have hn1 := nextP env θ
    have hlike : Like D env (withP env θ) := ⟨fun n hn => by
      show (prE θ n).den env = env.v n
      rw [prE_no fun hm => hn (hpθ n hm)]; rfl, rfl, rfl, rfl, rfl⟩
    have hent : D.ent.Hold (withP env θ) := primeF_ok hn1 (LoopY.factsO_ok htf); obtain ⟨ρ1, hle1, hpl1, hs1, ha1⟩ := frzAP_ok hfr hs ha; have hn1' : ∀ n p, ρ1 n = some p -> n < nx := fun n p hp => hn n p (by rw [<- show ρ1 n = ρ n from congrFun hpl1 n]; exact hp)
    have hnone : ∀ (ρ : PMap) (m : Nat), (∀ n p, ρ n = some p -> n < m) -> ρ m = none := fun ρ m hm => by
      cases hz : ρ m with
      | none => rfl
      | some p => exact absurd (hm m p hz) (Nat.lt_irrefl m)
    have hargs : SV.Rels (withP env θ) ⟨fun _ => none, ⟨ρ1.fz.ob, fun _ _ => none⟩⟩ D.args vs := by
      refine SV.Rels.reAr (ρ := ⟨fun _ => none, ρ1.fz⟩) (ρ' := ⟨fun _ => none, ⟨ρ1.fz.ob, fun _ _ => none⟩⟩) rfl rfl hnoA ?_; show SV.Rels (withP env θ) ⟨fun _ => none, ρ1.fz⟩ D.args vs; have := SV.ents_ok env (withP env θ) (fun _ => nx) (entCs_ok (σ := fun _ => nx) hn1 hes htes) ha1
      have e : (ρ1.re fun _ => nx) = ⟨fun _ => none, ρ1.fz⟩ := by
        show PMap.mk _ _ = _
        congr 1
        funext k
        exact hnone ρ1 nx hn1'
      rw [<- e]; exact this
    have h0 : HSat (withP env θ) (anchorF w ρ1) ⟨fun _ => none, ⟨ρ1.fz.ob, fun _ _ => none⟩⟩ (cden (arHeap D.ars)) w :=
      arHeap_sat ⟨rfl, rfl, rfl, Nat.le_refl _, fun _ _ => rfl⟩ rfl hs1.fz.at_ (fun b x hb _ => by show (ρ1.fz b).isSome = true; rw [show ρ1.fz b = some x from hb]; rfl)
    refine (hS _ hlike hent w ρ1 vs h0 hargs).mono fun e w' hq => ?_; obtain ⟨m, xs, ρ', v, nq, e2, hh, rfl, hxs, t1, hle', HS, hnx, g1⟩ := hq; obtain rfl := decP_ok hn1 hdec hxs t1; have g2 := SV.ent_ok _ _ _ (SV.ren_ent (σ := fun _ => 0) (τ := fun _ => 0) hn1 hren) g1; have g3 := SV.Rel.reAr (ρ := (ρ'.re fun _ => nq).re fun _ => 0) (ρ' := ⟨((ρ'.re fun _ => nq).re fun _ => 0).pl, ⟨ρ'.fz.ob, ρ1.fz.ar⟩⟩) rfl rfl (SV.noAp_ren hnoO) g2; have hm : PMap.le ⟨((ρ'.re fun _ => nq).re fun _ => 0).pl, ⟨ρ'.fz.ob, ρ1.fz.ar⟩⟩ ⟨ρ.pl, ⟨ρ'.fz.ob, ρ1.fz.ar⟩⟩ := ⟨fun k p hk => absurd (hnx nq p hk) (Nat.lt_irrefl _), Fz.le_refl _⟩; refine ⟨⟨ρ.pl, ⟨ρ'.fz.ob, ρ1.fz.ar⟩⟩, v, rfl, ⟨fun _ _ h => h, ⟨fun b x hb => hle'.fz b x (hle1.fz b x hb), hle1.fz.ar⟩⟩, ?_, hn, g3.mono hm⟩; have := hs1.stayF HS hle'.fz; rw [hpl1] at this; exact this
theorem fun_ok {P : Program} (hP : Plain P) (hM : P.follows .mixedOrders = true) {D : FunY} {env : Env} {L : List (Facts × List Ob)} (hob : D.obl P = some L)
    (hX : ∀ e' A, Like D env e' -> ExtOk P e' A (D.X.toExt P)) (hL : ∀ e', Like D env e' -> D.ent.Hold e' -> AllL e' L) : FnOk P env D.f D.funP :=
  fun_wrap fun e' he hent => fun_core hP hM hob (fun A => hX e' A he) hent (hL e' he hent)
def setG (e : Env) (G : Nat) (d : Dv) : Env := { e with v := fun k => if k = G then d else e.v k }
theorem setG_but (e : Env) (G : Nat) (d : Dv) : But G e (setG e G d) := ⟨fun m hm => by simp only [setG, if_neg hm], rfl, rfl, rfl, rfl⟩
theorem _root_.Go.Sx.But.symm {n : Nat} {e e' : Env} (h : But n e e') : But n e' e := ⟨fun m hm => (h.v m hm).symm, h.fn.symm, h.val.symm, h.mp.symm, h.uf.symm⟩
def noVF (G : Nat) (fs : Facts) : Bool := fs.all fun x => x.1.noV G
theorem hold_noV {G : Nat} {e e' : Env} (h : But G e e') {fs : Facts} (hn : noVF G fs = true) (hf : fs.Hold e) : fs.Hold e' := fun x b hm => by
  rw [E.den_noV h (List.all_eq_true.1 hn _ hm)]; exact hf x b hm
theorem exitObl_noV {G : Nat} {e e' : Env} (h : But G e e') : ∀ {l : List (E × Nat)} {m : Nat} {xs : List Ob}, (l.all fun x => x.1.noV G) = true -> LoopY.exitObl l m = some xs -> AllT e xs -> AllT e' xs
  | [], _, _, _, hx, _ => by cases hx
  | (c, ν) :: r, m, xs, hn, hx, ht => by
    simp only [List.all_cons, Bool.and_eq_true] at hn; simp only [LoopY.exitObl] at hx; cases hb : Nat.beq ν m with
    | true =>
      rw [hb] at hx; simp only [cond_true, Option.some.injEq] at hx; subst hx; intro x hx; cases hs : c.same (.bl true) with
      | true => rw [hs] at hx; cases hx
      | false =>
        rw [hs] at hx ht; rw [List.mem_singleton.1 hx]; show (c.den e').B = true; rw [E.den_noV h hn.1]; exact ht _ (List.mem_singleton.2 rfl)
    | false =>
      rw [hb] at hx; simp only [cond_false, Option.map_eq_some_iff] at hx; obtain ⟨ys, h1, rfl⟩ := hx; intro x hx; rcases List.mem_cons.1 hx with rfl | hx
      . have := ht _ (List.mem_cons_self ..); show ((notE c).den e').B = true; have hc : ((notE c).den e).B = true := this; rw [B_notE] at hc ⊢; rw [E.den_noV h hn.1]; exact hc
      . exact exitObl_noV h hn.2 h1 (fun x hx => ht x (List.mem_cons_of_mem _ hx)) x hx
theorem SemF_but {P : Program} {D : FunY} {G : Nat} {e e' : Env} (h : But G e e') (ha : SV.noVs G D.args = true) (hx : (D.exits.all fun x => x.1.noV G) = true) (ho : ∀ m, (D.out m).noV G = true) (hs : SemF P D e) : SemF P D e' := by
  intro w ρ1 vs h0 hargs; have h1 : HSat e (anchorF w ρ1) ⟨fun _ => none, ⟨ρ1.fz.ob, fun _ _ => none⟩⟩ (cden (arHeap D.ars)) w := arHeap_sat h0.below rfl h0.fz.at_ h0.fz.old; refine (hs w ρ1 vs h1 (by rw [<- SV.rels_noV h ha]; exact hargs)).mono fun x w' hq => ?_
  obtain ⟨m, xs, ρ', v, nq, e2, hh, rfl, hxs, t1, hle', HS, hnx, g1⟩ := hq; exact ⟨m, xs, ρ', v, nq, e2, hh, rfl, hxs, exitObl_noV h hx hxs t1, hle', HS, hnx, by rw [SV.rel_noV h (ho m)]; exact g1⟩
def recIn (D : FunY) (G : Nat) (sz : E) (X : XCtr) : FunY := { D with ent := (.o2 .ieq (.v G) sz, true) :: D.ent, X := X }
def recOut (D : FunY) (G : Nat) (sz : E) : FunY := { D with ent := (.o2 .lt sz (.v G), true) :: D.ent }
structure LikeU (D : FunY) (G : Nat) (env e' : Env) : Prop where
  v : ∀ n, n ∉ D.params -> n ≠ G -> e'.v n = env.v n
  fn : e'.fn = env.fn
  val : e'.val = env.val
  mp : e'.mp = env.mp
  uf : e'.uf = env.uf
theorem rec_ok {P : Program} (hP : Plain P) (hM : P.follows .mixedOrders = true) {D : FunY} {G : Nat} {sz : E} {X : XCtr} {env : Env} {L : List (Facts × List Ob)} (hob : (recIn D G sz X).obl P = some L) (hG : inL G D.params = false)
    (hno : (SV.noVs G D.args && (D.exits.all fun x => x.1.noV G) && noVF G D.ent && sz.noV G) = true) (hout : ∀ m, (D.out m).noV G = true)
    (hX : ∀ e' A, LikeU D G env e' -> FnOk P e' D.f (recOut D G sz).funP -> ExtOk P e' A (X.toExt P))
    (hL : ∀ e', LikeU D G env e' -> (recIn D G sz X).ent.Hold e' -> AllL e' L) (hnn : ∀ e', LikeU D G env e' -> D.ent.Hold e' -> 0 <= (sz.den e').I) : FnOk P env D.f D.funP := by
  simp only [Bool.and_eq_true] at hno; obtain ⟨⟨⟨n1, n2⟩, n3⟩, n4⟩ := hno; have hG' : G ∉ D.params := fun h => by rw [inL_iff.2 h] at hG; cases hG
  have key : ∀ n e', LikeU D G env e' -> D.ent.Hold e' -> (sz.den e').I.toNat < n -> SemF P D e' := by
    intro n
    induction n with
    | zero => intro e' _ _ h; omega
    | succ n ih =>
      intro e' he hent hlt; have hb := setG_but e' G (.i (sz.den e').I)
      have hent1 : (recIn D G sz X).ent.Hold (setG e' G (.i (sz.den e').I)) := by
        refine Facts.hold_cons ?_ (hold_noV hb n3 hent); show (((setG e' G (.i (sz.den e').I)).v G).I == (sz.den (setG e' G (.i (sz.den e').I))).I) = true; rw [E.den_noV hb n4]; simp [setG, Dv.I]
      have he1 : LikeU D G env (setG e' G (.i (sz.den e').I)) := ⟨fun k hk hk2 => by
        show (if k = G then _ else e'.v k) = _
        rw [if_neg hk2]; exact he.v k hk hk2, he.fn, he.val, he.mp, he.uf⟩
      have hfn : FnOk P (setG e' G (.i (sz.den e').I)) D.f (recOut D G sz).funP := by
        refine fun_wrap (D := recOut D G sz) fun e2 h2 hent2 => ?_; have hv : e2.v G = .i (sz.den e').I := by rw [h2.v G hG']; simp [setG]
        have h3 : ((E.o2 .lt sz (.v G)).den e2).B = true := hent2 _ _ (List.mem_cons_self ..); have h4 : D.ent.Hold e2 := fun x b hm => hent2 x b (List.mem_cons_of_mem _ hm)
        have h5 : (sz.den e2).I < (sz.den e').I := by
          have h3 : decide ((sz.den e2).I < (e2.v G).I) = true := h3; rw [hv] at h3; exact of_decide_eq_true h3
        have hU2 : LikeU D G env e2 := ⟨fun k hk hk2 => by rw [h2.v k hk]; exact he1.v k hk hk2, h2.fn.trans he1.fn, h2.val.trans he1.val, h2.mp.trans he1.mp, h2.uf.trans he1.uf⟩
        have h6 := hnn e2 hU2 h4; exact ih e2 hU2 h4 (by omega)
      have hs := fun_core hP hM hob (fun A => hX _ A he1 hfn) hent1 (hL _ he1 hent1); exact SemF_but (D := D) hb.symm n1 n2 hout hs
  exact fun_wrap fun e' he hent => key _ e' ⟨fun n hn _ => he.v n hn, he.fn, he.val, he.mp, he.uf⟩ hent (Nat.lt_succ_self _)
end FunY
end Go.Sx

